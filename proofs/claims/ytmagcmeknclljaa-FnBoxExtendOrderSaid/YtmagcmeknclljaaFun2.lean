/-
  Plain functions for the Go functions that this law reaches, and that each call does what its plain function says. Printed by a program of ours.
-/
import Derived.Test.YtmagcmeknclljaaProg
import Derived.Test.YtmagcmeknclljaaSxX
import Derived.Test.YtmagcmeknclljaaFun1
namespace Go.Proofs.Ytmagcmeknclljaa
open Go.Sx
set_option linter.unusedVariables false
set_option maxRecDepth 100000

def gogeom_NewMultiPointFlat_j2 (k : Nat) (r901 : Int × Int × (List Nat) × Int) (x5 : List Int) : Option (Int × Int × (List Nat) × Int × (List Int)) :=
 some (r901.1, r901.2.1, r901.2.2.1, r901.2.2.2, x5)
def gogeom_NewMultiPointFlat_l1s (x1 : Int) (r901 : Int × Int × (List Nat) × Int) (k : Nat) (rec1 : ((List Int) × Int) → Option ((List Int))) (x2 : List Int) (x3 : Int) : Option ((List Int)) :=
 br (decide (x3 < x1))
  ((idx x2 x3) >>= fun r106 =>
  rec1 ((x2.set x3.toNat (imul .i64 (iadd .i64 x3 1) r901.2.1)), (iadd .i64 x3 1)))
  (some x2)
def gogeom_NewMultiPointFlat_l1 (x1 : Int) (r901 : Int × Int × (List Nat) × Int) : Nat → ((List Int) × Int) → Option ((List Int))
 | 0, _ => none
 | k + 1, v => gogeom_NewMultiPointFlat_l1s x1 r901 k (gogeom_NewMultiPointFlat_l1 x1 r901 k) v.1 v.2
def gogeom_NewMultiPointFlat_j1 (k : Nat) (r901 : Int × Int × (List Nat) × Int) (x1 : Int) : Option (Int × Int × (List Nat) × Int × (List Int)) :=
 (mk 8 0 x1 x1) >>= fun r82 =>
 (gogeom_NewMultiPointFlat_l1 x1 r901 k (r82, 0)) >>= fun v3 =>
 gogeom_NewMultiPointFlat_j2 k r901 v3
def gogeom_NewMultiPointFlat (k : Nat) (a0 : Int) (a1 : List Nat) : Option (Int × Int × (List Nat) × Int × (List Int)) :=
 (gogeom_Layout_Stride k a0) >>= fun r22 =>
 (gogeom_NewMultiPointFlatOptionWithEnds_1 k a0 r22 a1 0) >>= fun r901 =>
 br (decide (0 < (r901.2.2.1.length : Int)))
  (br (decide (0 < r901.2.1))
   ((iquo .i64 (a1.length : Int) r901.2.1) >>= fun r79 =>
   gogeom_NewMultiPointFlat_j1 k r901 r79)
   (gogeom_NewMultiPointFlat_j1 k r901 0))
  (gogeom_NewMultiPointFlat_j2 k r901 [])

theorem gogeom_NewMultiPointFlat_sim {k : Nat} {wa2 : Addr} {wa2_0_0 : Addr} (a0 : Int) (a1 : List Nat) {out : Int × Int × (List Nat) × Int × (List Int)} (hp : gogeom_NewMultiPointFlat k a0 a1 = some out) : Sx.Fn Try.prog 68 [(Vi a0), (Sl Kf a1), (Vl (.slice (some wa2) 1 1))] [⟨.slice (some wa2) 1 1, [(Vl (.func (.func 90) #[] ⟨[.pointer (some wa2_0_0)]⟩))], 101, some 1⟩, ⟨.pointer (some wa2_0_0), [Vn], 23, none⟩] (fun w : Addr × Gs => (Vp w.1)) (fun w => [⟨.pointer (some wa2_0_0), [Vn], 23, none⟩, ⟨.pointer (some w.1), [(Vi out.1), (Vi out.2.1), (Sl Kf out.2.2.1), (Vi out.2.2.2.1), (Vl (Vs w.2))], 136, none⟩, (Rw (Ki .i64) 3 (Vs w.2) out.2.2.2.2)]) := by
 unfold gogeom_NewMultiPointFlat at hp
 refine fn_of Try.func68 rfl Try.ntmps68 rfl fun E hM => ?_
 refine cr fun K1 hK1 => ?_
 refine s0 (rd_assign' rfl) ?_
 refine nk hK1 ?_
 refine cr fun K2 hK2 => ?_
 refine sx_ox' (ox_alloc' info136 rfl rfl rfl rfl (l := [(Vi 0), (Vi 0), Vn, (Vi 0), Vn]) rfl) (wt_none' rfl) fun q12 => ?_
 refine s0 (rd_assign' rfl) ?_
 refine nk hK2 ?_
 refine cr fun K3 hK3 => ?_
 refine s0 (rd_move' rfl) ?_
 refine s0 (rd_move' rfl) ?_
 refine s0 (rd_nilck' rfl) ?_
 refine s0 (rd_field0' rfl Try.underlying136 rfl info130 rfl) ?_
 refine s0 (rd_field0' rfl Try.underlying130 rfl info126 rfl) ?_
 refine s0 (rd_field0' rfl Try.underlying126 rfl info124 rfl) ?_
 refine s0 (rd_field0' rfl Try.underlying124 rfl info61 rfl) ?_
 refine sx_ox' (ox_store' (i := 0) (o := 0) rfl rfl (lv_vl rfl rfl) ⟨rfl, rfl, rfl, rfl⟩ rfl info61 rfl (H' := [⟨.pointer (some q12), [(Vi a0), (Vi 0), Vn, (Vi 0), Vn], 136, none⟩, ⟨.slice (some wa2) 1 1, [(Vl (.func (.func 90) #[] ⟨[.pointer (some wa2_0_0)]⟩))], 101, some 1⟩, ⟨.pointer (some wa2_0_0), [Vn], 23, none⟩]) rfl) (wt_none' rfl) fun _ => ?_
 refine nk hK3 ?_
 refine cr fun K4 hK4 => ?_
 refine s0 (rd_move' rfl) ?_
 refine s0 (rd_move' rfl) ?_
 obtain ⟨r22, hr22, hp⟩ := bind_some hp
 refine sx_ox' (ox_calln' (ent_fn' Try.func89 isn89 rfl rfl) (gogeom_Layout_Stride_sim _ hr22 : Sx.Fn Try.prog 89 [(Vi a0)] [] (fun x : Unit => (Vi r22)) (fun x => [])) (Hn := fun x : Unit => [⟨.pointer (some q12), [(Vi a0), (Vi 0), Vn, (Vi 0), Vn], 136, none⟩, ⟨.slice (some wa2) 1 1, [(Vl (.func (.func 90) #[] ⟨[.pointer (some wa2_0_0)]⟩))], 101, some 1⟩, ⟨.pointer (some wa2_0_0), [Vn], 23, none⟩]) (fun _ => rfl) rfl rfl) (wt_none' rfl) fun ⟨⟩ => ?_
 refine s0 (rd_nilck' rfl) ?_
 refine s0 (rd_field0' rfl Try.underlying136 rfl info130 rfl) ?_
 refine s0 (rd_field0' rfl Try.underlying130 rfl info126 rfl) ?_
 refine s0 (rd_field0' rfl Try.underlying126 rfl info124 rfl) ?_
 refine s0 (rd_field' (off := 1) rfl Try.underlying124 rfl info3 rfl) ?_
 refine sx_ox' (ox_store' (i := 0) (o := 1) rfl rfl (lv_vl rfl rfl) ⟨rfl, rfl, rfl, rfl⟩ rfl info3 rfl (H' := [⟨.pointer (some q12), [(Vi a0), (Vi r22), Vn, (Vi 0), Vn], 136, none⟩, ⟨.slice (some wa2) 1 1, [(Vl (.func (.func 90) #[] ⟨[.pointer (some wa2_0_0)]⟩))], 101, some 1⟩, ⟨.pointer (some wa2_0_0), [Vn], 23, none⟩]) rfl) (wt_none' rfl) fun _ => ?_
 refine nk hK4 ?_
 refine cr fun K5 hK5 => ?_
 refine s0 (rd_move' rfl) ?_
 refine s0 (rd_move' rfl) ?_
 refine s0 (rd_nilck' rfl) ?_
 refine s0 (rd_field0' rfl Try.underlying136 rfl info130 rfl) ?_
 refine s0 (rd_field0' rfl Try.underlying130 rfl info126 rfl) ?_
 refine s0 (rd_field0' rfl Try.underlying126 rfl info124 rfl) ?_
 refine s0 (rd_field' (off := 2) rfl Try.underlying124 rfl info22 rfl) ?_
 refine sx_ox' (ox_store' (i := 0) (o := 2) rfl rfl (lv_sl _ _) ⟨rfl, rfl, rfl, rfl⟩ rfl info22 rfl (H' := [⟨.pointer (some q12), [(Vi a0), (Vi r22), (Sl Kf a1), (Vi 0), Vn], 136, none⟩, ⟨.slice (some wa2) 1 1, [(Vl (.func (.func 90) #[] ⟨[.pointer (some wa2_0_0)]⟩))], 101, some 1⟩, ⟨.pointer (some wa2_0_0), [Vn], 23, none⟩]) rfl) (wt_none' rfl) fun _ => ?_
 refine nk hK5 ?_
 refine cx_seq' fun K6 hK6 => ?_
 refine cr fun K7 hK7 => ?_
 refine s0 (rd_move' rfl) ?_
 refine s0 (rd_lenv' rfl Try.underlying153) ?_
 refine s0 (rd_move' rfl) ?_
 refine nk hK7 ?_
 refine cx_block' ?_
 refine tx_loop' ?_
 refine tx_round' ?_
 refine cr fun K8 hK8 => ?_
 refine s0 (rd_bin' rfl rfl eg_int ru_lss) ?_
 refine nk hK8 ?_
 refine cx_seq' fun K9 hK9 => ?_
 refine cx_cond_t' rfl rfl ?_
 refine cx_skip' ?_
 show TX E K9 _
 refine tx_k' hK9 ?_
 refine cx_seq' fun K10 hK10 => ?_
 refine cx_block' ?_
 refine cr fun K11 hK11 => ?_
 refine s0 (rd_atv' rfl rfl (by decide) (by decide) Try.underlying153 info101) ?_
 refine s0 (rd_load_row' (i := 1) (o := 0) rfl ⟨rfl, rfl, rfl⟩ rfl flat101) ?_
 refine s0 (rd_assign' rfl) ?_
 refine nk hK11 ?_
 refine cx_region' ?_
 refine s0 (rd_move' rfl) ?_
 refine s0 (rd_move' rfl) ?_
 obtain ⟨r901, hr901, hp⟩ := bind_some hp
 refine sx_ox' (ox_callg' (ent_clo' (us := [.pointer (some wa2_0_0)]) rfl Try.func90 isn90 rfl rfl) (gogeom_NewMultiPointFlatOptionWithEnds_1_sim _ _ _ _ hr901 : Sx.Fn Try.prog 90 [(Vp q12), (Vp wa2_0_0)] [⟨.pointer (some q12), [(Vi a0), (Vi r22), (Sl Kf a1), (Vi 0), Vn], 136, none⟩, ⟨.pointer (some wa2_0_0), [Vn], 23, none⟩] (fun x : Unit => (Vl (.tuple #[]))) (fun x => [⟨.pointer (some q12), [(Vi r901.1), (Vi r901.2.1), (Sl Kf r901.2.2.1), (Vi r901.2.2.2), Vn], 136, none⟩, ⟨.pointer (some wa2_0_0), [Vn], 23, none⟩])) [0, 2] [1] (by decide) (pick_cons rfl (pick_cons rfl pick_nil)) (pick_cons rfl pick_nil) (Hn := fun x : Unit => [⟨.pointer (some q12), [(Vi r901.1), (Vi r901.2.1), (Sl Kf r901.2.2.1), (Vi r901.2.2.2), Vn], 136, none⟩, ⟨.pointer (some wa2_0_0), [Vn], 23, none⟩, ⟨.slice (some wa2) 1 1, [(Vl (.func (.func 90) #[] ⟨[.pointer (some wa2_0_0)]⟩))], 101, some 1⟩]) (fun _ => rfl) rfl rfl) (wt_none' rfl) fun ⟨⟩ => ?_
 refine nk hK10 ?_
 refine cx_region' ?_
 refine s0 (rd_bin' rfl rfl eg_int (ru_addc (c := 1) (by decide))) ?_
 refine s0 (rd_move' rfl) ?_
 refine sx_nil' ?_
 show TX E (LoopIn _ _ _) _
 refine tx_round' ?_
 refine cr fun K12 hK12 => ?_
 refine s0 (rd_bin' rfl rfl eg_int ru_lss) ?_
 refine nk hK12 ?_
 refine cx_seq' fun K13 hK13 => ?_
 refine cx_cond_f' rfl rfl ?_
 refine cx_exit' ?_
 show TX E K6 _
 refine tx_k' hK6 ?_
 refine cx_join' (fun (v4 : (List Int) × Gs) => (⟨109, [], [(7, (Vp q12))], [⟨.pointer (some q12), [(Vi r901.1), (Vi r901.2.1), (Sl Kf r901.2.2.1), (Vi r901.2.2.2), (Vl (Vs v4.2))], 136, none⟩, (Rw (Ki .i64) 3 (Vs v4.2) v4.1), ⟨.pointer (some wa2_0_0), [Vn], 23, none⟩]⟩ : St)) (fun (v4 : (List Int) × Gs) => gogeom_NewMultiPointFlat_j2 k r901 v4.1 = some out) ?_ ?_
 ·rintro ⟨x5, g901⟩ hp
  replace hp : gogeom_NewMultiPointFlat_j2 k r901 x5 = some out := hp
  unfold gogeom_NewMultiPointFlat_j2 at hp
  refine cr fun K29 hK29 => ?_
  refine s0 (rd_move' rfl) ?_
  refine s0 (rd_assign' rfl) ?_
  refine nk hK29 ?_
  refine cx_retc' ?_
  replace hp := Option.some.inj hp
  subst hp
  refine tx_pick' (L' := [(6, (Vp q12))]) (H' := [⟨.pointer (some wa2_0_0), [Vn], 23, none⟩, ⟨.pointer (some q12), [(Vi r901.1), (Vi r901.2.1), (Sl Kf r901.2.2.1), (Vi r901.2.2.2), (Vl (Vs g901))], 136, none⟩, (Rw (Ki .i64) 3 (Vs g901) x5)]) [2, 0, 1] (sub_cons rfl sub_nil) (by decide) (pick_cons rfl (pick_cons rfl (pick_cons rfl pick_nil))) ?_
  exact tx_ret1' Try.results68 rfl (q12, g901) (rv_tmp' rfl) (List.Sublist.refl _)
 intro K14 hK14
 refine cr fun K15 hK15 => ?_
 refine s0 (rd_move' rfl) ?_
 refine s0 (rd_nilck' rfl) ?_
 refine s0 (rd_field0' rfl Try.underlying136 rfl info130 rfl) ?_
 refine s0 (rd_field' (off := 4) rfl Try.underlying130 rfl info23 rfl) ?_
 refine s0 (rd_load' (i := 0) (o := 4) rfl ⟨rfl, rfl, rfl, rfl⟩ rfl flat23) ?_
 refine s0 (rd_binf' rfl rfl (bf_vl (fun _ => by kernel_rfl) nil_eql23_nilsl)) ?_
 refine s0 (rd_move' rfl) ?_
 refine sx_rd' (rd_move' rfl) rfl rfl (wt_is' (wt_guard' rfl rfl rfl) (beq_tt rfl)) ?_
 refine sx_rd' (rd_nilck' rfl) rfl rfl (wt_is' (wt_guard' rfl rfl rfl) (beq_tt rfl)) ?_
 refine sx_rd' (rd_field0' rfl Try.underlying136 rfl info130 rfl) rfl rfl (wt_is' (wt_guard' rfl rfl rfl) (beq_tt rfl)) ?_
 refine sx_rd' (rd_field0' rfl Try.underlying130 rfl info126 rfl) rfl rfl (wt_is' (wt_guard' rfl rfl rfl) (beq_tt rfl)) ?_
 refine sx_rd' (rd_field0' rfl Try.underlying126 rfl info124 rfl) rfl rfl (wt_is' (wt_guard' rfl rfl rfl) (beq_tt rfl)) ?_
 refine sx_rd' (rd_field' (off := 2) rfl Try.underlying124 rfl info22 rfl) rfl rfl (wt_is' (wt_guard' rfl rfl rfl) (beq_tt rfl)) ?_
 refine sx_rd' (rd_load' (i := 0) (o := 2) rfl ⟨rfl, rfl, rfl, rfl⟩ rfl flat22) rfl rfl (wt_is' (wt_guard' rfl rfl rfl) (beq_tt rfl)) ?_
 refine sx_rd' (rd_len' rfl Try.underlying22) rfl rfl (wt_is' (wt_guard' rfl rfl rfl) (beq_tt rfl)) ?_
 refine sx_rd' (rd_bin' rfl rfl eg_int ru_gtr) rfl rfl (wt_is' (wt_guard' rfl rfl rfl) (beq_tt rfl)) ?_
 refine s0 (rd_pick_true' rfl rfl rfl) ?_
 refine nk hK15 ?_
 refine cx_cond' rfl (fun h1 => ?_) (fun h1 => ?_)
 ·replace hp := (br_t h1).symm.trans hp
  refine cr fun K16 hK16 => ?_
  refine s0 (rd_assign' rfl) ?_
  refine nk hK16 ?_
  refine cx_join' (fun (v1 : Int) => (⟨109, [], [(7, (Vp q12)), (10, (Vi v1))], [⟨.pointer (some q12), [(Vi r901.1), (Vi r901.2.1), (Sl Kf r901.2.2.1), (Vi r901.2.2.2), Vn], 136, none⟩, ⟨.pointer (some wa2_0_0), [Vn], 23, none⟩]⟩ : St)) (fun (v1 : Int) => gogeom_NewMultiPointFlat_j1 k r901 v1 = some out) ?_ ?_
  ·rintro x1 hp
   replace hp : gogeom_NewMultiPointFlat_j1 k r901 x1 = some out := hp
   unfold gogeom_NewMultiPointFlat_j1 at hp
   refine cr fun K19 hK19 => ?_
   refine s0 (rd_move' rfl) ?_
   refine s0 (rd_move' rfl) ?_
   obtain ⟨r82, hr82, hp⟩ := bind_some hp
   refine sx_ox' (ox_make' (K := (Ki .i64)) rfl rfl hr82 rfl Try.underlying23 info3 rfl rfl rfl rfl rfl) (wt_none' rfl) fun g82 => ?_
   refine s0 (rd_nilck' rfl) ?_
   refine s0 (rd_field0' rfl Try.underlying136 rfl info130 rfl) ?_
   refine s0 (rd_field' (off := 4) rfl Try.underlying130 rfl info23 rfl) ?_
   refine sx_ox' (ox_store' (i := 1) (o := 4) rfl rfl (lv_vl rfl rfl) ⟨rfl, rfl, rfl, rfl⟩ rfl info23 rfl (H' := [(Rw (Ki .i64) 3 (Vs g82) r82), ⟨.pointer (some q12), [(Vi r901.1), (Vi r901.2.1), (Sl Kf r901.2.2.1), (Vi r901.2.2.2), (Vl (Vs g82))], 136, none⟩, ⟨.pointer (some wa2_0_0), [Vn], 23, none⟩]) rfl) (wt_none' rfl) fun _ => ?_
   refine nk hK19 ?_
   refine cr fun K20 hK20 => ?_
   refine s0 (rd_move' rfl) ?_
   refine s0 (rd_move' rfl) ?_
   refine nk hK20 ?_
   refine cx_block' ?_
   obtain ⟨v3, hy1, hp⟩ := bind_some hp
   refine cx_loopg' (F := gogeom_NewMultiPointFlat_l1 x1 r901) (G := fun k R v => gogeom_NewMultiPointFlat_l1s x1 r901 k R v.1 v.2) (x := (r82, 0)) (gh := ()) (fun (v2 : (List Int) × Int) (w2 : Unit) => (⟨109, [], [(7, (Vp q12)), (86, (Vi x1)), (87, (Vi v2.2))], [⟨.pointer (some q12), [(Vi r901.1), (Vi r901.2.1), (Sl Kf r901.2.2.1), (Vi r901.2.2.2), (Vl (Vs g82))], 136, none⟩, (Rw (Ki .i64) 3 (Vs g82) v2.1), ⟨.pointer (some wa2_0_0), [Vn], 23, none⟩]⟩ : St)) (fun (v3 : (List Int)) => Zg E (Exit.exit 2) (fun (w3 : Unit) => (⟨109, [], [(7, (Vp q12))], [⟨.pointer (some q12), [(Vi r901.1), (Vi r901.2.1), (Sl Kf r901.2.2.1), (Vi r901.2.2.2), (Vl (Vs g82))], 136, none⟩, (Rw (Ki .i64) 3 (Vs g82) v3), ⟨.pointer (some wa2_0_0), [Vn], 23, none⟩]⟩ : St))) (fun _ => rfl) (fun _ _ => rfl) ?_ hy1 (tx_to' rfl [1, 0, 2] (sub_cons rfl (sub_cons rfl (sub_cons rfl sub_nil))) (by decide) (pick_cons rfl (pick_cons rfl (pick_cons rfl pick_nil)))) ?_
   ·clear hp hy1
    clear v3
    intro k rec1 KY1 ih1
    rintro ⟨x2, x3⟩ ⟨⟩ y1 hp
    replace hp : gogeom_NewMultiPointFlat_l1s x1 r901 k rec1 x2 x3 = some y1 := hp
    unfold gogeom_NewMultiPointFlat_l1s at hp
    refine cr fun K25 hK25 => ?_
    refine s0 (rd_bin' rfl rfl eg_int ru_lss) ?_
    refine nk hK25 ?_
    refine cx_seq' fun K26 hK26 => ?_
    refine cx_cond' rfl (fun h5 => ?_) (fun h5 => ?_)
    ·replace hp := (br_t h5).symm.trans hp
     refine cx_skip' ?_
     show TX E K26 _
     refine tx_k' hK26 ?_
     refine cx_seq' fun K27 hK27 => ?_
     refine cx_block' ?_
     refine cr fun K28 hK28 => ?_
     refine s0 (rd_move' rfl) ?_
     refine s0 (rd_assign' rfl) ?_
     refine nk hK28 ?_
     refine cx_plan' [] [(17, 1)] [(0, 1), (1, 1), (2, 1), (3, 1), (4, 1), (5, 1), (6, 1), (7, 1), (8, 1), (9, 1), (10, 1), (11, 1), (12, 1), (13, 1), (14, 1), (15, 1), (16, 1), (17, 0)] mixed (by kernel_rfl) ?_
     refine px_rd' rfl (rd_move' rfl) rfl rfl (wt_none' rfl) ?_
     refine px_rd' rfl (rd_nilck' rfl) rfl rfl (wt_none' rfl) ?_
     refine px_rd' rfl (rd_field0' rfl Try.underlying136 rfl info130 rfl) rfl rfl (wt_none' rfl) ?_
     refine px_rd' rfl (rd_field' (off := 4) rfl Try.underlying130 rfl info23 rfl) rfl rfl (wt_none' rfl) ?_
     refine px_rd' rfl (rd_load' (i := 0) (o := 4) rfl ⟨rfl, rfl, rfl, rfl⟩ rfl flat23) rfl rfl (wt_none' rfl) ?_
     refine px_rd' rfl (rd_move' rfl) rfl rfl (wt_none' rfl) ?_
     refine px_rd' rfl (rd_move' rfl) rfl rfl (wt_none' rfl) ?_
     refine px_rd' rfl (rd_bin' rfl rfl eg_int ru_add) rfl rfl (wt_none' rfl) ?_
     refine px_rd' rfl (rd_move' rfl) rfl rfl (wt_none' rfl) ?_
     refine px_rd' rfl (rd_nilck' rfl) rfl rfl (wt_none' rfl) ?_
     refine px_rd' rfl (rd_field0' rfl Try.underlying136 rfl info130 rfl) rfl rfl (wt_none' rfl) ?_
     refine px_rd' rfl (rd_field0' rfl Try.underlying130 rfl info126 rfl) rfl rfl (wt_none' rfl) ?_
     refine px_rd' rfl (rd_field0' rfl Try.underlying126 rfl info124 rfl) rfl rfl (wt_none' rfl) ?_
     refine px_rd' rfl (rd_field' (off := 1) rfl Try.underlying124 rfl info3 rfl) rfl rfl (wt_none' rfl) ?_
     refine px_rd' rfl (rd_load' (i := 0) (o := 1) rfl ⟨rfl, rfl, rfl, rfl⟩ rfl flat3) rfl rfl (wt_none' rfl) ?_
     refine px_rd' rfl (rd_bin' rfl rfl eg_int ru_mul) rfl rfl (wt_none' rfl) ?_
     obtain ⟨r106, hr106, hp⟩ := bind_some hp
     refine px_rd' rfl (rd_atr' (m := 1) rfl rfl rfl rfl hr106 Try.underlying23 info3) rfl rfl (wt_none' rfl) ?_
     refine px_ox' rfl (ox_storer' (m := 1) (i := x3) (j := 0) (x' := (imul .i64 (iadd .i64 x3 1) r901.2.1)) rfl rfl (lv_vl rfl rfl) rfl rfl hr106 rfl rfl rfl info3 rfl (H' := [⟨.pointer (some q12), [(Vi r901.1), (Vi r901.2.1), (Sl Kf r901.2.2.1), (Vi r901.2.2.2), (Vl (Vs g82))], 136, none⟩, (Rw (Ki .i64) 3 (Vs g82) (x2.set x3.toNat (imul .i64 (iadd .i64 x3 1) r901.2.1))), ⟨.pointer (some wa2_0_0), [Vn], 23, none⟩]) rfl) rfl bs_nil (wt_none' rfl) fun _ => ?_
     refine px_nil' ?_
     show TX E K27 _
     refine tx_k' hK27 ?_
     refine cx_region' ?_
     refine s0 (rd_bin' rfl rfl eg_int ru_add) ?_
     refine s0 (rd_move' rfl) ?_
     refine sx_nil' ?_
     show TX E (KY1 _) _
     exact tx_pick' [0, 1, 2] (sub_cons rfl (sub_cons rfl (sub_cons rfl sub_nil))) (by decide) (pick_cons rfl (pick_cons rfl (pick_cons rfl pick_nil))) (ih1 ((x2.set x3.toNat (imul .i64 (iadd .i64 x3 1) r901.2.1)), (iadd .i64 x3 1)) () _ hp)
    replace hp := (br_f h5).symm.trans hp
    refine cx_exit' ?_
    replace hp := Option.some.inj hp
    subst hp
    show TX E (Zg E (Exit.exit 2) _ (Exit.exit 2)) _
    exact tx_zend' () rfl [0, 1, 2] (sub_cons rfl sub_nil) (by decide) (pick_cons rfl (pick_cons rfl (pick_cons rfl pick_nil)))
   refine zg_out fun w3 => ?_
   show TX E K14 _
   exact tx_pick' [0, 1, 2] (sub_cons rfl sub_nil) (by decide) (pick_cons rfl (pick_cons rfl (pick_cons rfl pick_nil))) (hK14 (v3, g82) hp)
  intro K17 hK17
  refine cr fun K18 hK18 => ?_
  refine s0 (rd_move' rfl) ?_
  refine s0 (rd_nilck' rfl) ?_
  refine s0 (rd_field0' rfl Try.underlying136 rfl info130 rfl) ?_
  refine s0 (rd_field0' rfl Try.underlying130 rfl info126 rfl) ?_
  refine s0 (rd_field0' rfl Try.underlying126 rfl info124 rfl) ?_
  refine s0 (rd_field' (off := 1) rfl Try.underlying124 rfl info3 rfl) ?_
  refine s0 (rd_load' (i := 0) (o := 1) rfl ⟨rfl, rfl, rfl, rfl⟩ rfl flat3) ?_
  refine s0 (rd_bin' rfl rfl eg_int ru_gtr) ?_
  refine nk hK18 ?_
  refine cx_cond' rfl (fun h2 => ?_) (fun h2 => ?_)
  ·replace hp := (br_t h2).symm.trans hp
   refine cx_region' ?_
   refine s0 (rd_move' rfl) ?_
   refine s0 (rd_len' rfl Try.underlying22) ?_
   refine s0 (rd_move' rfl) ?_
   refine s0 (rd_nilck' rfl) ?_
   refine s0 (rd_field0' rfl Try.underlying136 rfl info130 rfl) ?_
   refine s0 (rd_field0' rfl Try.underlying130 rfl info126 rfl) ?_
   refine s0 (rd_field0' rfl Try.underlying126 rfl info124 rfl) ?_
   refine s0 (rd_field' (off := 1) rfl Try.underlying124 rfl info3 rfl) ?_
   refine s0 (rd_load' (i := 0) (o := 1) rfl ⟨rfl, rfl, rfl, rfl⟩ rfl flat3) ?_
   obtain ⟨r79, hr79, hp⟩ := bind_some hp
   refine s0 (rd_bin' rfl rfl eg_int (ru_quo hr79)) ?_
   refine s0 (rd_assign' rfl) ?_
   refine sx_nil' ?_
   show TX E K17 _
   exact tx_pick' [0, 1] (sub_cons rfl (sub_cons rfl sub_nil)) (by decide) (pick_cons rfl (pick_cons rfl pick_nil)) (hK17 r79 hp)
  replace hp := (br_f h2).symm.trans hp
  refine cx_skip' ?_
  show TX E K17 _
  exact tx_pick' [0, 1] (sub_cons rfl (sub_cons rfl sub_nil)) (by decide) (pick_cons rfl (pick_cons rfl pick_nil)) (hK17 0 hp)
 replace hp := (br_f h1).symm.trans hp
 refine cx_skip' ?_
 show TX E K14 _
 refine tx_nilrow' (Ki .i64) 3 ?_
 exact tx_pick' [1, 0, 2] (sub_cons rfl sub_nil) (by decide) (pick_cons rfl (pick_cons rfl (pick_cons rfl pick_nil))) (hK14 ([], (none, 0, 0)) hp)

def gogeom_MultiPoint_SetSRID (k : Nat) (a0_0 : Int) (a0_1 : Int) (a0_2 : List Nat) (a0_3 : Int) (a0_4 : List Int) (a1 : Int) : Option (Int × Int × (List Nat) × Int × (List Int)) :=
 some (a0_0, a0_1, a0_2, a1, a0_4)

theorem gogeom_MultiPoint_SetSRID_sim {k : Nat} {wa0 : Addr} {wa0_4 : Gs} (a0_0 : Int) (a0_1 : Int) (a0_2 : List Nat) (a0_3 : Int) (a0_4 : List Int) (a1 : Int) {out : Int × Int × (List Nat) × Int × (List Int)} (hp : gogeom_MultiPoint_SetSRID k a0_0 a0_1 a0_2 a0_3 a0_4 a1 = some out) : Sx.Fn Try.prog 70 [(Vp wa0), (Vi a1)] [⟨.pointer (some wa0), [(Vi a0_0), (Vi a0_1), (Sl Kf a0_2), (Vi a0_3), (Vl (Vs wa0_4))], 136, none⟩, (Rw (Ki .i64) 3 (Vs wa0_4) a0_4)] (fun w : Unit => (Vp wa0)) (fun w => [⟨.pointer (some wa0), [(Vi out.1), (Vi out.2.1), (Sl Kf out.2.2.1), (Vi out.2.2.2.1), (Vl (Vs wa0_4))], 136, none⟩, (Rw (Ki .i64) 3 (Vs wa0_4) out.2.2.2.2)]) := by
 unfold gogeom_MultiPoint_SetSRID at hp
 refine fn_of Try.func70 rfl Try.ntmps70 rfl fun E hM => ?_
 refine cr fun K1 hK1 => ?_
 refine s0 (rd_assign' rfl) ?_
 refine nk hK1 ?_
 refine cr fun K2 hK2 => ?_
 refine s0 (rd_move' rfl) ?_
 refine s0 (rd_move' rfl) ?_
 refine s0 (rd_nilck' rfl) ?_
 refine s0 (rd_field0' rfl Try.underlying136 rfl info130 rfl) ?_
 refine s0 (rd_field0' rfl Try.underlying130 rfl info126 rfl) ?_
 refine s0 (rd_field0' rfl Try.underlying126 rfl info124 rfl) ?_
 refine s0 (rd_field' (off := 3) rfl Try.underlying124 rfl info3 rfl) ?_
 refine sx_ox' (ox_store' (i := 0) (o := 3) rfl rfl (lv_vl rfl rfl) ⟨rfl, rfl, rfl, rfl⟩ rfl info3 rfl (H' := [⟨.pointer (some wa0), [(Vi a0_0), (Vi a0_1), (Sl Kf a0_2), (Vi a1), (Vl (Vs wa0_4))], 136, none⟩, (Rw (Ki .i64) 3 (Vs wa0_4) a0_4)]) rfl) (wt_none' rfl) fun _ => ?_
 refine nk hK2 ?_
 refine cr fun K3 hK3 => ?_
 refine s0 (rd_move' rfl) ?_
 refine s0 (rd_assign' rfl) ?_
 refine nk hK3 ?_
 refine cx_retc' ?_
 replace hp := Option.some.inj hp
 subst hp
 refine tx_pick' (L' := [(4, (Vp wa0))]) (H' := [⟨.pointer (some wa0), [(Vi a0_0), (Vi a0_1), (Sl Kf a0_2), (Vi a1), (Vl (Vs wa0_4))], 136, none⟩, (Rw (Ki .i64) 3 (Vs wa0_4) a0_4)]) [0, 1] (sub_cons rfl sub_nil) (by decide) (pick_cons rfl (pick_cons rfl pick_nil)) ?_
 exact tx_ret1' Try.results70 rfl () (rv_tmp' rfl) (List.Sublist.refl _)

def gogeom_NewMultiPointFlatOptionWithEnds_v2 (k : Nat) (a0 : List Int) : Option ((List Int)) :=
 some a0

theorem gogeom_NewMultiPointFlatOptionWithEnds_v2_sim {k : Nat}  (a0 : List Int) {out : (List Int)} (hp : gogeom_NewMultiPointFlatOptionWithEnds_v2 k a0 = some out) : Sx.Fn Try.prog 69 [(Sl (Ki .i64) a0)] [] (fun w : Addr => (Vl (.func (.func 90) #[] ⟨[.pointer (some w)]⟩))) (fun w => [⟨.pointer (some w), [(Sl (Ki .i64) out)], 23, none⟩]) := by
 unfold gogeom_NewMultiPointFlatOptionWithEnds_v2 at hp
 refine fn_of Try.func69 rfl Try.ntmps69 rfl fun E hM => ?_
 refine cr fun K1 hK1 => ?_
 refine sx_ox' (ox_box' rfl (lv_sl _ _) rfl rfl) (wt_none' rfl) fun q1 => ?_
 refine s0 (rd_assign' rfl) ?_
 refine nk hK1 ?_
 refine cr fun K2 hK2 => ?_
 refine s0 (rd_mkfunc' (us := [.pointer (some q1)]) rfl) ?_
 refine s0 (rd_assign' rfl) ?_
 refine nk hK2 ?_
 refine cx_retc' ?_
 replace hp := Option.some.inj hp
 subst hp
 refine tx_pick' (L' := [(2, (Vl (.func (.func 90) #[] ⟨[.pointer (some q1)]⟩)))]) (H' := [⟨.pointer (some q1), [(Sl (Ki .i64) a0)], 23, none⟩]) [0] (sub_cons rfl sub_nil) (by decide) (pick_cons rfl pick_nil) ?_
 exact tx_ret1' Try.results69 rfl q1 (rv_tmp' rfl) (List.Sublist.refl _)

def gogeom_NewMultiPointFlatOptionWithEnds_1_v2 (k : Nat) (a0_0 : Int) (a0_1 : Int) (a0_2 : List Nat) (a0_3 : Int) (a1_0 : List Int) : Option (Int × Int × (List Nat) × Int × (List Int)) :=
 some (a0_0, a0_1, a0_2, a0_3, a1_0)

theorem gogeom_NewMultiPointFlatOptionWithEnds_1_v2_sim {k : Nat} {wa0 : Addr} {wa1 : Addr} (a0_0 : Int) (a0_1 : Int) (a0_2 : List Nat) (a0_3 : Int) (a1_0 : List Int) {out : Int × Int × (List Nat) × Int × (List Int)} (hp : gogeom_NewMultiPointFlatOptionWithEnds_1_v2 k a0_0 a0_1 a0_2 a0_3 a1_0 = some out) : Sx.Fn Try.prog 90 [(Vp wa0), (Vp wa1)] [⟨.pointer (some wa0), [(Vi a0_0), (Vi a0_1), (Sl Kf a0_2), (Vi a0_3), Vn], 136, none⟩, ⟨.pointer (some wa1), [(Sl (Ki .i64) a1_0)], 23, none⟩] (fun w : Unit => (Vl (.tuple #[]))) (fun w => [⟨.pointer (some wa0), [(Vi out.1), (Vi out.2.1), (Sl Kf out.2.2.1), (Vi out.2.2.2.1), (Sl (Ki .i64) out.2.2.2.2)], 136, none⟩, ⟨.pointer (some wa1), [(Sl (Ki .i64) out.2.2.2.2)], 23, none⟩]) := by
 unfold gogeom_NewMultiPointFlatOptionWithEnds_1_v2 at hp
 refine fn_of Try.func90 rfl Try.ntmps90 rfl fun E hM => ?_
 refine cx_region' ?_
 refine s0 (rd_move' rfl) ?_
 refine s0 (rd_load' (i := 1) (o := 0) rfl ⟨rfl, rfl, rfl, rfl⟩ rfl flat23) ?_
 refine s0 (rd_nilck' rfl) ?_
 refine s0 (rd_field0' rfl Try.underlying136 rfl info130 rfl) ?_
 refine s0 (rd_field' (off := 4) rfl Try.underlying130 rfl info23 rfl) ?_
 refine sx_ox' (ox_store' (i := 0) (o := 4) rfl rfl (lv_sl _ _) ⟨rfl, rfl, rfl, rfl⟩ rfl info23 rfl (H' := [⟨.pointer (some wa0), [(Vi a0_0), (Vi a0_1), (Sl Kf a0_2), (Vi a0_3), (Sl (Ki .i64) a1_0)], 136, none⟩, ⟨.pointer (some wa1), [(Sl (Ki .i64) a1_0)], 23, none⟩]) rfl) (wt_none' rfl) fun _ => ?_
 refine sx_nil' ?_
 replace hp := Option.some.inj hp
 subst hp
 refine tx_pick' (L' := []) (H' := [⟨.pointer (some wa0), [(Vi a0_0), (Vi a0_1), (Sl Kf a0_2), (Vi a0_3), (Sl (Ki .i64) a1_0)], 136, none⟩, ⟨.pointer (some wa1), [(Sl (Ki .i64) a1_0)], 23, none⟩]) [0, 1] sub_nil (by decide) (pick_cons rfl (pick_cons rfl pick_nil)) ?_
 exact tx_end0' Try.results90 rfl () rfl (List.Sublist.refl _)

def gogeom_NewMultiPointFlat_v2 (k : Nat) (a0 : Int) (a1 : List Nat) (a2_0_0_0 : List Int) : Option ((List Int) × Int × Int × (List Nat) × Int) :=
 (gogeom_Layout_Stride k a0) >>= fun r22 =>
 (gogeom_NewMultiPointFlatOptionWithEnds_1_v2 k a0 r22 a1 0 a2_0_0_0) >>= fun r901 =>
 (some1 r901.2.2.2.2) >>= fun z1 =>
 some (r901.2.2.2.2, r901.1, r901.2.1, r901.2.2.1, r901.2.2.2.1)

theorem gogeom_NewMultiPointFlat_v2_sim {k : Nat} {wa2 : Addr} {wa2_0_0 : Addr} (a0 : Int) (a1 : List Nat) (a2_0_0_0 : List Int) {out : (List Int) × Int × Int × (List Nat) × Int} (hp : gogeom_NewMultiPointFlat_v2 k a0 a1 a2_0_0_0 = some out) : Sx.Fn Try.prog 68 [(Vi a0), (Sl Kf a1), (Vl (.slice (some wa2) 1 1))] [⟨.slice (some wa2) 1 1, [(Vl (.func (.func 90) #[] ⟨[.pointer (some wa2_0_0)]⟩))], 101, some 1⟩, ⟨.pointer (some wa2_0_0), [(Sl (Ki .i64) a2_0_0_0)], 23, none⟩] (fun w : Addr => (Vp w)) (fun w => [⟨.pointer (some wa2_0_0), [(Sl (Ki .i64) out.1)], 23, none⟩, ⟨.pointer (some w), [(Vi out.2.1), (Vi out.2.2.1), (Sl Kf out.2.2.2.1), (Vi out.2.2.2.2), (Sl (Ki .i64) out.1)], 136, none⟩]) := by
 unfold gogeom_NewMultiPointFlat_v2 at hp
 refine fn_of Try.func68 rfl Try.ntmps68 rfl fun E hM => ?_
 refine cr fun K1 hK1 => ?_
 refine s0 (rd_assign' rfl) ?_
 refine nk hK1 ?_
 refine cr fun K2 hK2 => ?_
 refine sx_ox' (ox_alloc' info136 rfl rfl rfl rfl (l := [(Vi 0), (Vi 0), Vn, (Vi 0), Vn]) rfl) (wt_none' rfl) fun q12 => ?_
 refine s0 (rd_assign' rfl) ?_
 refine nk hK2 ?_
 refine cr fun K3 hK3 => ?_
 refine s0 (rd_move' rfl) ?_
 refine s0 (rd_move' rfl) ?_
 refine s0 (rd_nilck' rfl) ?_
 refine s0 (rd_field0' rfl Try.underlying136 rfl info130 rfl) ?_
 refine s0 (rd_field0' rfl Try.underlying130 rfl info126 rfl) ?_
 refine s0 (rd_field0' rfl Try.underlying126 rfl info124 rfl) ?_
 refine s0 (rd_field0' rfl Try.underlying124 rfl info61 rfl) ?_
 refine sx_ox' (ox_store' (i := 0) (o := 0) rfl rfl (lv_vl rfl rfl) ⟨rfl, rfl, rfl, rfl⟩ rfl info61 rfl (H' := [⟨.pointer (some q12), [(Vi a0), (Vi 0), Vn, (Vi 0), Vn], 136, none⟩, ⟨.slice (some wa2) 1 1, [(Vl (.func (.func 90) #[] ⟨[.pointer (some wa2_0_0)]⟩))], 101, some 1⟩, ⟨.pointer (some wa2_0_0), [(Sl (Ki .i64) a2_0_0_0)], 23, none⟩]) rfl) (wt_none' rfl) fun _ => ?_
 refine nk hK3 ?_
 refine cr fun K4 hK4 => ?_
 refine s0 (rd_move' rfl) ?_
 refine s0 (rd_move' rfl) ?_
 obtain ⟨r22, hr22, hp⟩ := bind_some hp
 refine sx_ox' (ox_calln' (ent_fn' Try.func89 isn89 rfl rfl) (gogeom_Layout_Stride_sim _ hr22 : Sx.Fn Try.prog 89 [(Vi a0)] [] (fun x : Unit => (Vi r22)) (fun x => [])) (Hn := fun x : Unit => [⟨.pointer (some q12), [(Vi a0), (Vi 0), Vn, (Vi 0), Vn], 136, none⟩, ⟨.slice (some wa2) 1 1, [(Vl (.func (.func 90) #[] ⟨[.pointer (some wa2_0_0)]⟩))], 101, some 1⟩, ⟨.pointer (some wa2_0_0), [(Sl (Ki .i64) a2_0_0_0)], 23, none⟩]) (fun _ => rfl) rfl rfl) (wt_none' rfl) fun ⟨⟩ => ?_
 refine s0 (rd_nilck' rfl) ?_
 refine s0 (rd_field0' rfl Try.underlying136 rfl info130 rfl) ?_
 refine s0 (rd_field0' rfl Try.underlying130 rfl info126 rfl) ?_
 refine s0 (rd_field0' rfl Try.underlying126 rfl info124 rfl) ?_
 refine s0 (rd_field' (off := 1) rfl Try.underlying124 rfl info3 rfl) ?_
 refine sx_ox' (ox_store' (i := 0) (o := 1) rfl rfl (lv_vl rfl rfl) ⟨rfl, rfl, rfl, rfl⟩ rfl info3 rfl (H' := [⟨.pointer (some q12), [(Vi a0), (Vi r22), Vn, (Vi 0), Vn], 136, none⟩, ⟨.slice (some wa2) 1 1, [(Vl (.func (.func 90) #[] ⟨[.pointer (some wa2_0_0)]⟩))], 101, some 1⟩, ⟨.pointer (some wa2_0_0), [(Sl (Ki .i64) a2_0_0_0)], 23, none⟩]) rfl) (wt_none' rfl) fun _ => ?_
 refine nk hK4 ?_
 refine cr fun K5 hK5 => ?_
 refine s0 (rd_move' rfl) ?_
 refine s0 (rd_move' rfl) ?_
 refine s0 (rd_nilck' rfl) ?_
 refine s0 (rd_field0' rfl Try.underlying136 rfl info130 rfl) ?_
 refine s0 (rd_field0' rfl Try.underlying130 rfl info126 rfl) ?_
 refine s0 (rd_field0' rfl Try.underlying126 rfl info124 rfl) ?_
 refine s0 (rd_field' (off := 2) rfl Try.underlying124 rfl info22 rfl) ?_
 refine sx_ox' (ox_store' (i := 0) (o := 2) rfl rfl (lv_sl _ _) ⟨rfl, rfl, rfl, rfl⟩ rfl info22 rfl (H' := [⟨.pointer (some q12), [(Vi a0), (Vi r22), (Sl Kf a1), (Vi 0), Vn], 136, none⟩, ⟨.slice (some wa2) 1 1, [(Vl (.func (.func 90) #[] ⟨[.pointer (some wa2_0_0)]⟩))], 101, some 1⟩, ⟨.pointer (some wa2_0_0), [(Sl (Ki .i64) a2_0_0_0)], 23, none⟩]) rfl) (wt_none' rfl) fun _ => ?_
 refine nk hK5 ?_
 refine cx_seq' fun K6 hK6 => ?_
 refine cr fun K7 hK7 => ?_
 refine s0 (rd_move' rfl) ?_
 refine s0 (rd_lenv' rfl Try.underlying153) ?_
 refine s0 (rd_move' rfl) ?_
 refine nk hK7 ?_
 refine cx_block' ?_
 refine tx_loop' ?_
 refine tx_round' ?_
 refine cr fun K8 hK8 => ?_
 refine s0 (rd_bin' rfl rfl eg_int ru_lss) ?_
 refine nk hK8 ?_
 refine cx_seq' fun K9 hK9 => ?_
 refine cx_cond_t' rfl rfl ?_
 refine cx_skip' ?_
 show TX E K9 _
 refine tx_k' hK9 ?_
 refine cx_seq' fun K10 hK10 => ?_
 refine cx_block' ?_
 refine cr fun K11 hK11 => ?_
 refine s0 (rd_atv' rfl rfl (by decide) (by decide) Try.underlying153 info101) ?_
 refine s0 (rd_load_row' (i := 1) (o := 0) rfl ⟨rfl, rfl, rfl⟩ rfl flat101) ?_
 refine s0 (rd_assign' rfl) ?_
 refine nk hK11 ?_
 refine cx_region' ?_
 refine s0 (rd_move' rfl) ?_
 refine s0 (rd_move' rfl) ?_
 obtain ⟨r901, hr901, hp⟩ := bind_some hp
 refine sx_ox' (ox_callg' (ent_clo' (us := [.pointer (some wa2_0_0)]) rfl Try.func90 isn90 rfl rfl) (gogeom_NewMultiPointFlatOptionWithEnds_1_v2_sim _ _ _ _ _ hr901 : Sx.Fn Try.prog 90 [(Vp q12), (Vp wa2_0_0)] [⟨.pointer (some q12), [(Vi a0), (Vi r22), (Sl Kf a1), (Vi 0), Vn], 136, none⟩, ⟨.pointer (some wa2_0_0), [(Sl (Ki .i64) a2_0_0_0)], 23, none⟩] (fun x : Unit => (Vl (.tuple #[]))) (fun x => [⟨.pointer (some q12), [(Vi r901.1), (Vi r901.2.1), (Sl Kf r901.2.2.1), (Vi r901.2.2.2.1), (Sl (Ki .i64) r901.2.2.2.2)], 136, none⟩, ⟨.pointer (some wa2_0_0), [(Sl (Ki .i64) r901.2.2.2.2)], 23, none⟩])) [0, 2] [1] (by decide) (pick_cons rfl (pick_cons rfl pick_nil)) (pick_cons rfl pick_nil) (Hn := fun x : Unit => [⟨.pointer (some q12), [(Vi r901.1), (Vi r901.2.1), (Sl Kf r901.2.2.1), (Vi r901.2.2.2.1), (Sl (Ki .i64) r901.2.2.2.2)], 136, none⟩, ⟨.pointer (some wa2_0_0), [(Sl (Ki .i64) r901.2.2.2.2)], 23, none⟩, ⟨.slice (some wa2) 1 1, [(Vl (.func (.func 90) #[] ⟨[.pointer (some wa2_0_0)]⟩))], 101, some 1⟩]) (fun _ => rfl) rfl rfl) (wt_none' rfl) fun ⟨⟩ => ?_
 refine nk hK10 ?_
 refine cx_region' ?_
 refine s0 (rd_bin' rfl rfl eg_int (ru_addc (c := 1) (by decide))) ?_
 refine s0 (rd_move' rfl) ?_
 refine sx_nil' ?_
 show TX E (LoopIn _ _ _) _
 refine tx_round' ?_
 refine cr fun K12 hK12 => ?_
 refine s0 (rd_bin' rfl rfl eg_int ru_lss) ?_
 refine nk hK12 ?_
 refine cx_seq' fun K13 hK13 => ?_
 refine cx_cond_f' rfl rfl ?_
 refine cx_exit' ?_
 show TX E K6 _
 refine tx_k' hK6 ?_
 refine cx_seq' fun K14 hK14 => ?_
 refine cr fun K15 hK15 => ?_
 refine s0 (rd_move' rfl) ?_
 refine s0 (rd_nilck' rfl) ?_
 refine s0 (rd_field0' rfl Try.underlying136 rfl info130 rfl) ?_
 refine s0 (rd_field' (off := 4) rfl Try.underlying130 rfl info23 rfl) ?_
 refine s0 (rd_load' (i := 0) (o := 4) rfl ⟨rfl, rfl, rfl, rfl⟩ rfl flat23) ?_
 obtain ⟨z1, hz1, hp⟩ := bind_some hp
 refine s0 (rd_binf' rfl rfl (bf_sl hz1 (fun _ _ _ _ => by kernel_rfl) nil_eql23_sl)) ?_
 refine s0 (rd_move' rfl) ?_
 refine sx_skip' rfl rfl (wt_is' (wt_guard' rfl rfl rfl) (beq_ft rfl)) ?_
 refine sx_skip' rfl rfl (wt_is' (wt_guard' rfl rfl rfl) (beq_ft rfl)) ?_
 refine sx_skip' rfl rfl (wt_is' (wt_guard' rfl rfl rfl) (beq_ft rfl)) ?_
 refine sx_skip' rfl rfl (wt_is' (wt_guard' rfl rfl rfl) (beq_ft rfl)) ?_
 refine sx_skip' rfl rfl (wt_is' (wt_guard' rfl rfl rfl) (beq_ft rfl)) ?_
 refine sx_skip' rfl rfl (wt_is' (wt_guard' rfl rfl rfl) (beq_ft rfl)) ?_
 refine sx_skip' rfl rfl (wt_is' (wt_guard' rfl rfl rfl) (beq_ft rfl)) ?_
 refine sx_skip' rfl rfl (wt_is' (wt_guard' rfl rfl rfl) (beq_ft rfl)) ?_
 refine sx_skip' rfl rfl (wt_is' (wt_guard' rfl rfl rfl) (beq_ft rfl)) ?_
 refine s0 (rd_pick_false' rfl rfl rfl) ?_
 refine nk hK15 ?_
 refine cx_cond_f' rfl rfl ?_
 refine cx_skip' ?_
 show TX E K14 _
 refine tx_k' hK14 ?_
 refine cr fun K16 hK16 => ?_
 refine s0 (rd_move' rfl) ?_
 refine s0 (rd_assign' rfl) ?_
 refine nk hK16 ?_
 refine cx_retc' ?_
 replace hp := Option.some.inj hp
 subst hp
 refine tx_pick' (L' := [(6, (Vp q12))]) (H' := [⟨.pointer (some wa2_0_0), [(Sl (Ki .i64) r901.2.2.2.2)], 23, none⟩, ⟨.pointer (some q12), [(Vi r901.1), (Vi r901.2.1), (Sl Kf r901.2.2.1), (Vi r901.2.2.2.1), (Sl (Ki .i64) r901.2.2.2.2)], 136, none⟩]) [1, 0] (sub_cons rfl sub_nil) (by decide) (pick_cons rfl (pick_cons rfl pick_nil)) ?_
 exact tx_ret1' Try.results68 rfl q12 (rv_tmp' rfl) (List.Sublist.refl _)

def gogeom_MultiPoint_SetSRID_v2 (k : Nat) (a0_0 : Int) (a0_1 : Int) (a0_2 : List Nat) (a0_3 : Int) (a0_4 : List Int) (a1 : Int) : Option (Int × Int × (List Nat) × Int × (List Int)) :=
 some (a0_0, a0_1, a0_2, a1, a0_4)

theorem gogeom_MultiPoint_SetSRID_v2_sim {k : Nat} {wa0 : Addr} (a0_0 : Int) (a0_1 : Int) (a0_2 : List Nat) (a0_3 : Int) (a0_4 : List Int) (a1 : Int) {out : Int × Int × (List Nat) × Int × (List Int)} (hp : gogeom_MultiPoint_SetSRID_v2 k a0_0 a0_1 a0_2 a0_3 a0_4 a1 = some out) : Sx.Fn Try.prog 70 [(Vp wa0), (Vi a1)] [⟨.pointer (some wa0), [(Vi a0_0), (Vi a0_1), (Sl Kf a0_2), (Vi a0_3), (Sl (Ki .i64) a0_4)], 136, none⟩] (fun w : Unit => (Vp wa0)) (fun w => [⟨.pointer (some wa0), [(Vi out.1), (Vi out.2.1), (Sl Kf out.2.2.1), (Vi out.2.2.2.1), (Sl (Ki .i64) out.2.2.2.2)], 136, none⟩]) := by
 unfold gogeom_MultiPoint_SetSRID_v2 at hp
 refine fn_of Try.func70 rfl Try.ntmps70 rfl fun E hM => ?_
 refine cr fun K1 hK1 => ?_
 refine s0 (rd_assign' rfl) ?_
 refine nk hK1 ?_
 refine cr fun K2 hK2 => ?_
 refine s0 (rd_move' rfl) ?_
 refine s0 (rd_move' rfl) ?_
 refine s0 (rd_nilck' rfl) ?_
 refine s0 (rd_field0' rfl Try.underlying136 rfl info130 rfl) ?_
 refine s0 (rd_field0' rfl Try.underlying130 rfl info126 rfl) ?_
 refine s0 (rd_field0' rfl Try.underlying126 rfl info124 rfl) ?_
 refine s0 (rd_field' (off := 3) rfl Try.underlying124 rfl info3 rfl) ?_
 refine sx_ox' (ox_store' (i := 0) (o := 3) rfl rfl (lv_vl rfl rfl) ⟨rfl, rfl, rfl, rfl⟩ rfl info3 rfl (H' := [⟨.pointer (some wa0), [(Vi a0_0), (Vi a0_1), (Sl Kf a0_2), (Vi a1), (Sl (Ki .i64) a0_4)], 136, none⟩]) rfl) (wt_none' rfl) fun _ => ?_
 refine nk hK2 ?_
 refine cr fun K3 hK3 => ?_
 refine s0 (rd_move' rfl) ?_
 refine s0 (rd_assign' rfl) ?_
 refine nk hK3 ?_
 refine cx_retc' ?_
 replace hp := Option.some.inj hp
 subst hp
 refine tx_pick' (L' := [(4, (Vp wa0))]) (H' := [⟨.pointer (some wa0), [(Vi a0_0), (Vi a0_1), (Sl Kf a0_2), (Vi a1), (Sl (Ki .i64) a0_4)], 136, none⟩]) [0] (sub_cons rfl sub_nil) (by decide) (pick_cons rfl pick_nil) ?_
 exact tx_ret1' Try.results70 rfl () (rv_tmp' rfl) (List.Sublist.refl _)

def gogeom_NewMultiLineStringFlat (k : Nat) (a0 : Int) (a1 : List Nat) : Option (Int × Int × (List Nat) × Int) :=
 (gogeom_Layout_Stride k a0) >>= fun r18 =>
 some (a0, r18, a1, 0)

theorem gogeom_NewMultiLineStringFlat_sim {k : Nat}  (a0 : Int) (a1 : List Nat) {out : Int × Int × (List Nat) × Int} (hp : gogeom_NewMultiLineStringFlat k a0 a1 = some out) : Sx.Fn Try.prog 71 [(Vi a0), (Sl Kf a1), Vn] [] (fun w : Addr => (Vp w)) (fun w => [⟨.pointer (some w), [(Vi out.1), (Vi out.2.1), (Sl Kf out.2.2.1), (Vi out.2.2.2), Vn], 139, none⟩]) := by
 unfold gogeom_NewMultiLineStringFlat at hp
 refine fn_of Try.func71 rfl Try.ntmps71 rfl fun E hM => ?_
 refine cr fun K1 hK1 => ?_
 refine s0 (rd_assign' rfl) ?_
 refine nk hK1 ?_
 refine cr fun K2 hK2 => ?_
 refine sx_ox' (ox_alloc' info139 rfl rfl rfl rfl (l := [(Vi 0), (Vi 0), Vn, (Vi 0), Vn]) rfl) (wt_none' rfl) fun q8 => ?_
 refine s0 (rd_assign' rfl) ?_
 refine nk hK2 ?_
 refine cr fun K3 hK3 => ?_
 refine s0 (rd_move' rfl) ?_
 refine s0 (rd_move' rfl) ?_
 refine s0 (rd_nilck' rfl) ?_
 refine s0 (rd_field0' rfl Try.underlying139 rfl info130 rfl) ?_
 refine s0 (rd_field0' rfl Try.underlying130 rfl info126 rfl) ?_
 refine s0 (rd_field0' rfl Try.underlying126 rfl info124 rfl) ?_
 refine s0 (rd_field0' rfl Try.underlying124 rfl info61 rfl) ?_
 refine sx_ox' (ox_store' (i := 0) (o := 0) rfl rfl (lv_vl rfl rfl) ⟨rfl, rfl, rfl, rfl⟩ rfl info61 rfl (H' := [⟨.pointer (some q8), [(Vi a0), (Vi 0), Vn, (Vi 0), Vn], 139, none⟩]) rfl) (wt_none' rfl) fun _ => ?_
 refine nk hK3 ?_
 refine cr fun K4 hK4 => ?_
 refine s0 (rd_move' rfl) ?_
 refine s0 (rd_move' rfl) ?_
 obtain ⟨r18, hr18, hp⟩ := bind_some hp
 refine sx_ox' (ox_calln' (ent_fn' Try.func89 isn89 rfl rfl) (gogeom_Layout_Stride_sim _ hr18 : Sx.Fn Try.prog 89 [(Vi a0)] [] (fun x : Unit => (Vi r18)) (fun x => [])) (Hn := fun x : Unit => [⟨.pointer (some q8), [(Vi a0), (Vi 0), Vn, (Vi 0), Vn], 139, none⟩]) (fun _ => rfl) rfl rfl) (wt_none' rfl) fun ⟨⟩ => ?_
 refine s0 (rd_nilck' rfl) ?_
 refine s0 (rd_field0' rfl Try.underlying139 rfl info130 rfl) ?_
 refine s0 (rd_field0' rfl Try.underlying130 rfl info126 rfl) ?_
 refine s0 (rd_field0' rfl Try.underlying126 rfl info124 rfl) ?_
 refine s0 (rd_field' (off := 1) rfl Try.underlying124 rfl info3 rfl) ?_
 refine sx_ox' (ox_store' (i := 0) (o := 1) rfl rfl (lv_vl rfl rfl) ⟨rfl, rfl, rfl, rfl⟩ rfl info3 rfl (H' := [⟨.pointer (some q8), [(Vi a0), (Vi r18), Vn, (Vi 0), Vn], 139, none⟩]) rfl) (wt_none' rfl) fun _ => ?_
 refine nk hK4 ?_
 refine cr fun K5 hK5 => ?_
 refine s0 (rd_move' rfl) ?_
 refine s0 (rd_move' rfl) ?_
 refine s0 (rd_nilck' rfl) ?_
 refine s0 (rd_field0' rfl Try.underlying139 rfl info130 rfl) ?_
 refine s0 (rd_field0' rfl Try.underlying130 rfl info126 rfl) ?_
 refine s0 (rd_field0' rfl Try.underlying126 rfl info124 rfl) ?_
 refine s0 (rd_field' (off := 2) rfl Try.underlying124 rfl info22 rfl) ?_
 refine sx_ox' (ox_store' (i := 0) (o := 2) rfl rfl (lv_sl _ _) ⟨rfl, rfl, rfl, rfl⟩ rfl info22 rfl (H' := [⟨.pointer (some q8), [(Vi a0), (Vi r18), (Sl Kf a1), (Vi 0), Vn], 139, none⟩]) rfl) (wt_none' rfl) fun _ => ?_
 refine nk hK5 ?_
 refine cr fun K6 hK6 => ?_
 refine s0 (rd_move' rfl) ?_
 refine s0 (rd_move' rfl) ?_
 refine s0 (rd_nilck' rfl) ?_
 refine s0 (rd_field0' rfl Try.underlying139 rfl info130 rfl) ?_
 refine s0 (rd_field' (off := 4) rfl Try.underlying130 rfl info23 rfl) ?_
 refine sx_ox' (ox_store' (i := 0) (o := 4) rfl rfl (lv_vl rfl rfl) ⟨rfl, rfl, rfl, rfl⟩ rfl info23 rfl (H' := [⟨.pointer (some q8), [(Vi a0), (Vi r18), (Sl Kf a1), (Vi 0), Vn], 139, none⟩]) rfl) (wt_none' rfl) fun _ => ?_
 refine nk hK6 ?_
 refine cr fun K7 hK7 => ?_
 refine s0 (rd_move' rfl) ?_
 refine s0 (rd_assign' rfl) ?_
 refine nk hK7 ?_
 refine cx_retc' ?_
 replace hp := Option.some.inj hp
 subst hp
 refine tx_pick' (L' := [(6, (Vp q8))]) (H' := [⟨.pointer (some q8), [(Vi a0), (Vi r18), (Sl Kf a1), (Vi 0), Vn], 139, none⟩]) [0] (sub_cons rfl sub_nil) (by decide) (pick_cons rfl pick_nil) ?_
 exact tx_ret1' Try.results71 rfl q8 (rv_tmp' rfl) (List.Sublist.refl _)

def gogeom_MultiLineString_SetSRID (k : Nat) (a0_0 : Int) (a0_1 : Int) (a0_2 : List Nat) (a0_3 : Int) (a1 : Int) : Option (Int × Int × (List Nat) × Int) :=
 some (a0_0, a0_1, a0_2, a1)

theorem gogeom_MultiLineString_SetSRID_sim {k : Nat} {wa0 : Addr} (a0_0 : Int) (a0_1 : Int) (a0_2 : List Nat) (a0_3 : Int) (a1 : Int) {out : Int × Int × (List Nat) × Int} (hp : gogeom_MultiLineString_SetSRID k a0_0 a0_1 a0_2 a0_3 a1 = some out) : Sx.Fn Try.prog 72 [(Vp wa0), (Vi a1)] [⟨.pointer (some wa0), [(Vi a0_0), (Vi a0_1), (Sl Kf a0_2), (Vi a0_3), Vn], 139, none⟩] (fun w : Unit => (Vp wa0)) (fun w => [⟨.pointer (some wa0), [(Vi out.1), (Vi out.2.1), (Sl Kf out.2.2.1), (Vi out.2.2.2), Vn], 139, none⟩]) := by
 unfold gogeom_MultiLineString_SetSRID at hp
 refine fn_of Try.func72 rfl Try.ntmps72 rfl fun E hM => ?_
 refine cr fun K1 hK1 => ?_
 refine s0 (rd_assign' rfl) ?_
 refine nk hK1 ?_
 refine cr fun K2 hK2 => ?_
 refine s0 (rd_move' rfl) ?_
 refine s0 (rd_move' rfl) ?_
 refine s0 (rd_nilck' rfl) ?_
 refine s0 (rd_field0' rfl Try.underlying139 rfl info130 rfl) ?_
 refine s0 (rd_field0' rfl Try.underlying130 rfl info126 rfl) ?_
 refine s0 (rd_field0' rfl Try.underlying126 rfl info124 rfl) ?_
 refine s0 (rd_field' (off := 3) rfl Try.underlying124 rfl info3 rfl) ?_
 refine sx_ox' (ox_store' (i := 0) (o := 3) rfl rfl (lv_vl rfl rfl) ⟨rfl, rfl, rfl, rfl⟩ rfl info3 rfl (H' := [⟨.pointer (some wa0), [(Vi a0_0), (Vi a0_1), (Sl Kf a0_2), (Vi a1), Vn], 139, none⟩]) rfl) (wt_none' rfl) fun _ => ?_
 refine nk hK2 ?_
 refine cr fun K3 hK3 => ?_
 refine s0 (rd_move' rfl) ?_
 refine s0 (rd_assign' rfl) ?_
 refine nk hK3 ?_
 refine cx_retc' ?_
 replace hp := Option.some.inj hp
 subst hp
 refine tx_pick' (L' := [(4, (Vp wa0))]) (H' := [⟨.pointer (some wa0), [(Vi a0_0), (Vi a0_1), (Sl Kf a0_2), (Vi a1), Vn], 139, none⟩]) [0] (sub_cons rfl sub_nil) (by decide) (pick_cons rfl pick_nil) ?_
 exact tx_ret1' Try.results72 rfl () (rv_tmp' rfl) (List.Sublist.refl _)

def gogeom_NewMultiLineStringFlat_v2 (k : Nat) (a0 : Int) (a1 : List Nat) (a2 : List Int) : Option (Int × Int × (List Nat) × Int × (List Int)) :=
 (gogeom_Layout_Stride k a0) >>= fun r18 =>
 some (a0, r18, a1, 0, a2)

theorem gogeom_NewMultiLineStringFlat_v2_sim {k : Nat}  (a0 : Int) (a1 : List Nat) (a2 : List Int) {out : Int × Int × (List Nat) × Int × (List Int)} (hp : gogeom_NewMultiLineStringFlat_v2 k a0 a1 a2 = some out) : Sx.Fn Try.prog 71 [(Vi a0), (Sl Kf a1), (Sl (Ki .i64) a2)] [] (fun w : Addr => (Vp w)) (fun w => [⟨.pointer (some w), [(Vi out.1), (Vi out.2.1), (Sl Kf out.2.2.1), (Vi out.2.2.2.1), (Sl (Ki .i64) out.2.2.2.2)], 139, none⟩]) := by
 unfold gogeom_NewMultiLineStringFlat_v2 at hp
 refine fn_of Try.func71 rfl Try.ntmps71 rfl fun E hM => ?_
 refine cr fun K1 hK1 => ?_
 refine s0 (rd_assign' rfl) ?_
 refine nk hK1 ?_
 refine cr fun K2 hK2 => ?_
 refine sx_ox' (ox_alloc' info139 rfl rfl rfl rfl (l := [(Vi 0), (Vi 0), Vn, (Vi 0), Vn]) rfl) (wt_none' rfl) fun q8 => ?_
 refine s0 (rd_assign' rfl) ?_
 refine nk hK2 ?_
 refine cr fun K3 hK3 => ?_
 refine s0 (rd_move' rfl) ?_
 refine s0 (rd_move' rfl) ?_
 refine s0 (rd_nilck' rfl) ?_
 refine s0 (rd_field0' rfl Try.underlying139 rfl info130 rfl) ?_
 refine s0 (rd_field0' rfl Try.underlying130 rfl info126 rfl) ?_
 refine s0 (rd_field0' rfl Try.underlying126 rfl info124 rfl) ?_
 refine s0 (rd_field0' rfl Try.underlying124 rfl info61 rfl) ?_
 refine sx_ox' (ox_store' (i := 0) (o := 0) rfl rfl (lv_vl rfl rfl) ⟨rfl, rfl, rfl, rfl⟩ rfl info61 rfl (H' := [⟨.pointer (some q8), [(Vi a0), (Vi 0), Vn, (Vi 0), Vn], 139, none⟩]) rfl) (wt_none' rfl) fun _ => ?_
 refine nk hK3 ?_
 refine cr fun K4 hK4 => ?_
 refine s0 (rd_move' rfl) ?_
 refine s0 (rd_move' rfl) ?_
 obtain ⟨r18, hr18, hp⟩ := bind_some hp
 refine sx_ox' (ox_calln' (ent_fn' Try.func89 isn89 rfl rfl) (gogeom_Layout_Stride_sim _ hr18 : Sx.Fn Try.prog 89 [(Vi a0)] [] (fun x : Unit => (Vi r18)) (fun x => [])) (Hn := fun x : Unit => [⟨.pointer (some q8), [(Vi a0), (Vi 0), Vn, (Vi 0), Vn], 139, none⟩]) (fun _ => rfl) rfl rfl) (wt_none' rfl) fun ⟨⟩ => ?_
 refine s0 (rd_nilck' rfl) ?_
 refine s0 (rd_field0' rfl Try.underlying139 rfl info130 rfl) ?_
 refine s0 (rd_field0' rfl Try.underlying130 rfl info126 rfl) ?_
 refine s0 (rd_field0' rfl Try.underlying126 rfl info124 rfl) ?_
 refine s0 (rd_field' (off := 1) rfl Try.underlying124 rfl info3 rfl) ?_
 refine sx_ox' (ox_store' (i := 0) (o := 1) rfl rfl (lv_vl rfl rfl) ⟨rfl, rfl, rfl, rfl⟩ rfl info3 rfl (H' := [⟨.pointer (some q8), [(Vi a0), (Vi r18), Vn, (Vi 0), Vn], 139, none⟩]) rfl) (wt_none' rfl) fun _ => ?_
 refine nk hK4 ?_
 refine cr fun K5 hK5 => ?_
 refine s0 (rd_move' rfl) ?_
 refine s0 (rd_move' rfl) ?_
 refine s0 (rd_nilck' rfl) ?_
 refine s0 (rd_field0' rfl Try.underlying139 rfl info130 rfl) ?_
 refine s0 (rd_field0' rfl Try.underlying130 rfl info126 rfl) ?_
 refine s0 (rd_field0' rfl Try.underlying126 rfl info124 rfl) ?_
 refine s0 (rd_field' (off := 2) rfl Try.underlying124 rfl info22 rfl) ?_
 refine sx_ox' (ox_store' (i := 0) (o := 2) rfl rfl (lv_sl _ _) ⟨rfl, rfl, rfl, rfl⟩ rfl info22 rfl (H' := [⟨.pointer (some q8), [(Vi a0), (Vi r18), (Sl Kf a1), (Vi 0), Vn], 139, none⟩]) rfl) (wt_none' rfl) fun _ => ?_
 refine nk hK5 ?_
 refine cr fun K6 hK6 => ?_
 refine s0 (rd_move' rfl) ?_
 refine s0 (rd_move' rfl) ?_
 refine s0 (rd_nilck' rfl) ?_
 refine s0 (rd_field0' rfl Try.underlying139 rfl info130 rfl) ?_
 refine s0 (rd_field' (off := 4) rfl Try.underlying130 rfl info23 rfl) ?_
 refine sx_ox' (ox_store' (i := 0) (o := 4) rfl rfl (lv_sl _ _) ⟨rfl, rfl, rfl, rfl⟩ rfl info23 rfl (H' := [⟨.pointer (some q8), [(Vi a0), (Vi r18), (Sl Kf a1), (Vi 0), (Sl (Ki .i64) a2)], 139, none⟩]) rfl) (wt_none' rfl) fun _ => ?_
 refine nk hK6 ?_
 refine cr fun K7 hK7 => ?_
 refine s0 (rd_move' rfl) ?_
 refine s0 (rd_assign' rfl) ?_
 refine nk hK7 ?_
 refine cx_retc' ?_
 replace hp := Option.some.inj hp
 subst hp
 refine tx_pick' (L' := [(6, (Vp q8))]) (H' := [⟨.pointer (some q8), [(Vi a0), (Vi r18), (Sl Kf a1), (Vi 0), (Sl (Ki .i64) a2)], 139, none⟩]) [0] (sub_cons rfl sub_nil) (by decide) (pick_cons rfl pick_nil) ?_
 exact tx_ret1' Try.results71 rfl q8 (rv_tmp' rfl) (List.Sublist.refl _)

def gogeom_MultiLineString_SetSRID_v2 (k : Nat) (a0_0 : Int) (a0_1 : Int) (a0_2 : List Nat) (a0_3 : Int) (a0_4 : List Int) (a1 : Int) : Option (Int × Int × (List Nat) × Int × (List Int)) :=
 some (a0_0, a0_1, a0_2, a1, a0_4)

theorem gogeom_MultiLineString_SetSRID_v2_sim {k : Nat} {wa0 : Addr} (a0_0 : Int) (a0_1 : Int) (a0_2 : List Nat) (a0_3 : Int) (a0_4 : List Int) (a1 : Int) {out : Int × Int × (List Nat) × Int × (List Int)} (hp : gogeom_MultiLineString_SetSRID_v2 k a0_0 a0_1 a0_2 a0_3 a0_4 a1 = some out) : Sx.Fn Try.prog 72 [(Vp wa0), (Vi a1)] [⟨.pointer (some wa0), [(Vi a0_0), (Vi a0_1), (Sl Kf a0_2), (Vi a0_3), (Sl (Ki .i64) a0_4)], 139, none⟩] (fun w : Unit => (Vp wa0)) (fun w => [⟨.pointer (some wa0), [(Vi out.1), (Vi out.2.1), (Sl Kf out.2.2.1), (Vi out.2.2.2.1), (Sl (Ki .i64) out.2.2.2.2)], 139, none⟩]) := by
 unfold gogeom_MultiLineString_SetSRID_v2 at hp
 refine fn_of Try.func72 rfl Try.ntmps72 rfl fun E hM => ?_
 refine cr fun K1 hK1 => ?_
 refine s0 (rd_assign' rfl) ?_
 refine nk hK1 ?_
 refine cr fun K2 hK2 => ?_
 refine s0 (rd_move' rfl) ?_
 refine s0 (rd_move' rfl) ?_
 refine s0 (rd_nilck' rfl) ?_
 refine s0 (rd_field0' rfl Try.underlying139 rfl info130 rfl) ?_
 refine s0 (rd_field0' rfl Try.underlying130 rfl info126 rfl) ?_
 refine s0 (rd_field0' rfl Try.underlying126 rfl info124 rfl) ?_
 refine s0 (rd_field' (off := 3) rfl Try.underlying124 rfl info3 rfl) ?_
 refine sx_ox' (ox_store' (i := 0) (o := 3) rfl rfl (lv_vl rfl rfl) ⟨rfl, rfl, rfl, rfl⟩ rfl info3 rfl (H' := [⟨.pointer (some wa0), [(Vi a0_0), (Vi a0_1), (Sl Kf a0_2), (Vi a1), (Sl (Ki .i64) a0_4)], 139, none⟩]) rfl) (wt_none' rfl) fun _ => ?_
 refine nk hK2 ?_
 refine cr fun K3 hK3 => ?_
 refine s0 (rd_move' rfl) ?_
 refine s0 (rd_assign' rfl) ?_
 refine nk hK3 ?_
 refine cx_retc' ?_
 replace hp := Option.some.inj hp
 subst hp
 refine tx_pick' (L' := [(4, (Vp wa0))]) (H' := [⟨.pointer (some wa0), [(Vi a0_0), (Vi a0_1), (Sl Kf a0_2), (Vi a1), (Sl (Ki .i64) a0_4)], 139, none⟩]) [0] (sub_cons rfl sub_nil) (by decide) (pick_cons rfl pick_nil) ?_
 exact tx_ret1' Try.results72 rfl () (rv_tmp' rfl) (List.Sublist.refl _)

def impl_intss_l1s (a0 : List (List Int)) (k : Nat) (rec1 : ((List (List Int)) × Int) → Option ((List (List Int)))) (x1 : List (List Int)) (x2 : Int) : Option ((List (List Int))) :=
 br (decide (x2 < (a0.length : Int)))
  ((idx a0 x2) >>= fun r10 =>
  (impl_ints k r10) >>= fun r14 =>
  match r14 with
   | (.inl y2) =>
    ((apd 24 x1 ([[]])) >>= fun r16 =>
    rec1 (r16, (iadd .i64 x2 1)))
   | (.inr y2) =>
    ((apd 24 x1 ([y2])) >>= fun r16 =>
    rec1 (r16, (iadd .i64 x2 1))))
  (some x1)
def impl_intss_l1 (a0 : List (List Int)) : Nat → ((List (List Int)) × Int) → Option ((List (List Int)))
 | 0, _ => none
 | k + 1, v => impl_intss_l1s a0 k (impl_intss_l1 a0 k) v.1 v.2
def impl_intss (k : Nat) (a0 : List (List Int)) : Option ((List (List Int))) :=
 (impl_intss_l1 a0 k ([], 0)) >>= fun v2 =>
 some v2

theorem impl_intss_sim {k : Nat}  (a0 : List (List Int)) {out : (List (List Int))} (hp : impl_intss k a0 = some out) : Sx.Fn Try.prog 29 [(Sl (Kl (Ki .i64)) a0)] [] (fun w : Unit => (Sl (Kl (Ki .i64)) out)) (fun w => []) := by
 unfold impl_intss at hp
 refine fn_of Try.func29 rfl Try.ntmps29 rfl fun E hM => ?_
 refine cr fun K1 hK1 => ?_
 refine s0 (rd_assign' rfl) ?_
 refine nk hK1 ?_
 refine cr fun K2 hK2 => ?_
 refine s0 (rd_assign' rfl) ?_
 refine nk hK2 ?_
 refine cx_seq' fun K3 hK3 => ?_
 refine cr fun K4 hK4 => ?_
 refine s0 (rd_move' rfl) ?_
 refine s0 (rd_len' rfl Try.underlying24) ?_
 refine s0 (rd_move' rfl) ?_
 refine nk hK4 ?_
 refine cx_block' ?_
 obtain ⟨v2, hy1, hp⟩ := bind_some hp
 refine tx_nilrow' (Kl (Ki .i64)) 23 ?_
 refine cx_loopg' (F := impl_intss_l1 a0) (G := fun k R v => impl_intss_l1s a0 k R v.1 v.2) (x := ([], 0)) (gh := (none, 0, 0)) (fun (v1 : (List (List Int)) × Int) (w1 : Gs) => (⟨19, [], [(3, (Vl (Vs w1))), (6, (Sl (Kl (Ki .i64)) a0)), (7, (Vi (a0.length : Int))), (8, (Vi v1.2))], [(Rw (Kl (Ki .i64)) 23 (Vs w1) v1.1)]⟩ : St)) (fun (v2 : (List (List Int))) => Zg E (Exit.exit 0) (fun (w2 : Gs) => (⟨19, [], [(3, (Vl (Vs w2)))], [(Rw (Kl (Ki .i64)) 23 (Vs w2) v2)]⟩ : St))) (fun _ => rfl) (fun _ _ => rfl) ?_ hy1 (tx_to' rfl [0] (sub_cons rfl (sub_cons rfl (sub_cons rfl (sub_cons rfl sub_nil)))) (by decide) (pick_cons rfl pick_nil)) ?_
 ·clear hp hy1
  clear v2
  intro k rec1 KY1 ih1
  rintro ⟨x1, x2⟩ g901 y3 hp
  replace hp : impl_intss_l1s a0 k rec1 x1 x2 = some y3 := hp
  unfold impl_intss_l1s at hp
  refine cr fun K9 hK9 => ?_
  refine s0 (rd_bin' rfl rfl eg_int ru_lss) ?_
  refine nk hK9 ?_
  refine cx_seq' fun K10 hK10 => ?_
  refine cx_cond' rfl (fun h3 => ?_) (fun h3 => ?_)
  ·replace hp := (br_t h3).symm.trans hp
   refine cx_skip' ?_
   show TX E K10 _
   refine tx_k' hK10 ?_
   refine cx_seq' fun K11 hK11 => ?_
   refine cx_block' ?_
   refine cr fun K12 hK12 => ?_
   obtain ⟨r10, hr10, hp⟩ := bind_some hp
   refine s0 (rd_at' (K := (Kl (Ki .i64))) rfl rfl hr10 Try.underlying24 info23) ?_
   refine s0 (rd_load_pt' rfl rfl flat23) ?_
   refine s0 (rd_assign' rfl) ?_
   refine nk hK12 ?_
   refine cx_region' ?_
   refine s0 (rd_move' rfl) ?_
   refine s0 (rd_move' rfl) ?_
   obtain ⟨r14, hr14, hp⟩ := bind_some hp
   rcases r14 with y2 | y2
   ·dsimp only at hp
    refine sx_ox' (ox_calln' (ent_fn' Try.func58 isn58 rfl rfl) (impl_ints_sim _ hr14 : Sx.Fn Try.prog 58 [(Sl (Ki .i64) r10)] [] (fun x : Unit => Vn) (fun x => [])) (Hn := fun x : Unit => [(Rw (Kl (Ki .i64)) 23 (Vs g901) x1)]) (fun _ => rfl) rfl rfl) (wt_none' rfl) fun ⟨⟩ => ?_
    refine tx_nilsl' 14 (Ki .i64) rfl rfl ?_
    refine sx_ox' (ox_rowlit' (K := (Kl (Ki .i64))) (xs := [[]]) (qs := [(0, [(Sl (Ki .i64) [])])]) ⟨rfl, ⟨_, rfl, (lv_sl _ _)⟩, trivial⟩ Try.underlying24 info23 rfl rfl rfl rfl rfl (by kernel_rfl) rfl rfl rfl) (wt_none' rfl) fun g15 => ?_
    obtain ⟨r16, hr16, hp⟩ := bind_some hp
    refine sx_ox' (ox_append' (K := (Kl (Ki .i64))) (i := 1) (xs := x1) (ys := ([[]])) rfl rfl rfl (sr_row' (j := 0) rfl rfl rfl Try.underlying24) hr16 Try.underlying24 info23 rfl rfl rfl (H' := [(Rw (Kl (Ki .i64)) 23 (Vs g15) ([[]]))]) rfl) (wt_none' rfl) fun g16 => ?_
    refine s0 (rd_assign' rfl) ?_
    refine nk hK11 ?_
    refine cx_region' ?_
    refine s0 (rd_bin' rfl rfl eg_int ru_add) ?_
    refine s0 (rd_move' rfl) ?_
    refine sx_nil' ?_
    show TX E (KY1 _) _
    exact tx_pick' [0] (sub_cons rfl (sub_cons rfl (sub_cons rfl (sub_cons rfl sub_nil)))) (by decide) (pick_cons rfl pick_nil) (ih1 (r16, (iadd .i64 x2 1)) g16 _ hp)
   dsimp only at hp
   refine sx_ox' (ox_calln' (ent_fn' Try.func58 isn58 rfl rfl) (impl_ints_sim _ hr14 : Sx.Fn Try.prog 58 [(Sl (Ki .i64) r10)] [] (fun x : Unit => (Sl (Ki .i64) y2)) (fun x => [])) (Hn := fun x : Unit => [(Rw (Kl (Ki .i64)) 23 (Vs g901) x1)]) (fun _ => rfl) rfl rfl) (wt_none' rfl) fun ⟨⟩ => ?_
   refine sx_ox' (ox_rowlit' (K := (Kl (Ki .i64))) (xs := [y2]) (qs := [(0, [(Sl (Ki .i64) y2)])]) ⟨rfl, ⟨_, rfl, (lv_sl _ _)⟩, trivial⟩ Try.underlying24 info23 rfl rfl rfl rfl rfl (by kernel_rfl) rfl rfl rfl) (wt_none' rfl) fun g15 => ?_
   obtain ⟨r16, hr16, hp⟩ := bind_some hp
   refine sx_ox' (ox_append' (K := (Kl (Ki .i64))) (i := 1) (xs := x1) (ys := ([y2])) rfl rfl rfl (sr_row' (j := 0) rfl rfl rfl Try.underlying24) hr16 Try.underlying24 info23 rfl rfl rfl (H' := [(Rw (Kl (Ki .i64)) 23 (Vs g15) ([y2]))]) rfl) (wt_none' rfl) fun g16 => ?_
   refine s0 (rd_assign' rfl) ?_
   refine nk hK11 ?_
   refine cx_region' ?_
   refine s0 (rd_bin' rfl rfl eg_int ru_add) ?_
   refine s0 (rd_move' rfl) ?_
   refine sx_nil' ?_
   show TX E (KY1 _) _
   exact tx_pick' [0] (sub_cons rfl (sub_cons rfl (sub_cons rfl (sub_cons rfl sub_nil)))) (by decide) (pick_cons rfl pick_nil) (ih1 (r16, (iadd .i64 x2 1)) g16 _ hp)
  replace hp := (br_f h3).symm.trans hp
  refine cx_exit' ?_
  replace hp := Option.some.inj hp
  subst hp
  show TX E (Zg E (Exit.exit 0) _ (Exit.exit 0)) _
  exact tx_zend' g901 rfl [0] (sub_cons rfl sub_nil) (by decide) (pick_cons rfl pick_nil)
 refine zg_out fun w2 => ?_
 show TX E K3 _
 refine tx_k' hK3 ?_
 refine cr fun K13 hK13 => ?_
 refine s0 (rd_move' rfl) ?_
 refine s0 (rd_assign' rfl) ?_
 refine nk hK13 ?_
 refine cx_retc' ?_
 replace hp := Option.some.inj hp
 subst hp
 refine tx_fz' (frz_row 0 [(3, (Vl (Vs w2)), (Sl (Kl (Ki .i64)) v2)), (18, (Vl (Vs w2)), (Sl (Kl (Ki .i64)) v2)), (2, (Vl (Vs w2)), (Sl (Kl (Ki .i64)) v2))] (K := (Kl (Ki .i64))) (xs := v2) (by decide) rfl ⟨⟨rfl, frz_it⟩, ⟨rfl, frz_it⟩, ⟨rfl, frz_it⟩, trivial⟩ (H' := []) frzH_refl) ?_
 refine tx_pick' (L' := [(2, (Sl (Kl (Ki .i64)) v2))]) (H' := []) [] (sub_cons rfl sub_nil) (by decide) pick_nil ?_
 exact tx_ret1' Try.results29 rfl () (rv_tmp' rfl) (List.Sublist.refl _)

def gogeom_NewMultiPolygonFlat (k : Nat) (a0 : Int) (a1 : List Nat) (a2 : List (List Int)) : Option (Int × Int × (List Nat) × Int × (List (List Int))) :=
 (gogeom_Layout_Stride k a0) >>= fun r18 =>
 some (a0, r18, a1, 0, a2)

theorem gogeom_NewMultiPolygonFlat_sim {k : Nat}  (a0 : Int) (a1 : List Nat) (a2 : List (List Int)) {out : Int × Int × (List Nat) × Int × (List (List Int))} (hp : gogeom_NewMultiPolygonFlat k a0 a1 a2 = some out) : Sx.Fn Try.prog 73 [(Vi a0), (Sl Kf a1), (Sl (Kl (Ki .i64)) a2)] [] (fun w : Addr => (Vp w)) (fun w => [⟨.pointer (some w), [(Vi out.1), (Vi out.2.1), (Sl Kf out.2.2.1), (Vi out.2.2.2.1), (Sl (Kl (Ki .i64)) out.2.2.2.2)], 143, none⟩]) := by
 unfold gogeom_NewMultiPolygonFlat at hp
 refine fn_of Try.func73 rfl Try.ntmps73 rfl fun E hM => ?_
 refine cr fun K1 hK1 => ?_
 refine s0 (rd_assign' rfl) ?_
 refine nk hK1 ?_
 refine cr fun K2 hK2 => ?_
 refine sx_ox' (ox_alloc' info143 rfl rfl rfl rfl (l := [(Vi 0), (Vi 0), Vn, (Vi 0), Vn]) rfl) (wt_none' rfl) fun q8 => ?_
 refine s0 (rd_assign' rfl) ?_
 refine nk hK2 ?_
 refine cr fun K3 hK3 => ?_
 refine s0 (rd_move' rfl) ?_
 refine s0 (rd_move' rfl) ?_
 refine s0 (rd_nilck' rfl) ?_
 refine s0 (rd_field0' rfl Try.underlying143 rfl info141 rfl) ?_
 refine s0 (rd_field0' rfl Try.underlying141 rfl info126 rfl) ?_
 refine s0 (rd_field0' rfl Try.underlying126 rfl info124 rfl) ?_
 refine s0 (rd_field0' rfl Try.underlying124 rfl info61 rfl) ?_
 refine sx_ox' (ox_store' (i := 0) (o := 0) rfl rfl (lv_vl rfl rfl) ⟨rfl, rfl, rfl, rfl⟩ rfl info61 rfl (H' := [⟨.pointer (some q8), [(Vi a0), (Vi 0), Vn, (Vi 0), Vn], 143, none⟩]) rfl) (wt_none' rfl) fun _ => ?_
 refine nk hK3 ?_
 refine cr fun K4 hK4 => ?_
 refine s0 (rd_move' rfl) ?_
 refine s0 (rd_move' rfl) ?_
 obtain ⟨r18, hr18, hp⟩ := bind_some hp
 refine sx_ox' (ox_calln' (ent_fn' Try.func89 isn89 rfl rfl) (gogeom_Layout_Stride_sim _ hr18 : Sx.Fn Try.prog 89 [(Vi a0)] [] (fun x : Unit => (Vi r18)) (fun x => [])) (Hn := fun x : Unit => [⟨.pointer (some q8), [(Vi a0), (Vi 0), Vn, (Vi 0), Vn], 143, none⟩]) (fun _ => rfl) rfl rfl) (wt_none' rfl) fun ⟨⟩ => ?_
 refine s0 (rd_nilck' rfl) ?_
 refine s0 (rd_field0' rfl Try.underlying143 rfl info141 rfl) ?_
 refine s0 (rd_field0' rfl Try.underlying141 rfl info126 rfl) ?_
 refine s0 (rd_field0' rfl Try.underlying126 rfl info124 rfl) ?_
 refine s0 (rd_field' (off := 1) rfl Try.underlying124 rfl info3 rfl) ?_
 refine sx_ox' (ox_store' (i := 0) (o := 1) rfl rfl (lv_vl rfl rfl) ⟨rfl, rfl, rfl, rfl⟩ rfl info3 rfl (H' := [⟨.pointer (some q8), [(Vi a0), (Vi r18), Vn, (Vi 0), Vn], 143, none⟩]) rfl) (wt_none' rfl) fun _ => ?_
 refine nk hK4 ?_
 refine cr fun K5 hK5 => ?_
 refine s0 (rd_move' rfl) ?_
 refine s0 (rd_move' rfl) ?_
 refine s0 (rd_nilck' rfl) ?_
 refine s0 (rd_field0' rfl Try.underlying143 rfl info141 rfl) ?_
 refine s0 (rd_field0' rfl Try.underlying141 rfl info126 rfl) ?_
 refine s0 (rd_field0' rfl Try.underlying126 rfl info124 rfl) ?_
 refine s0 (rd_field' (off := 2) rfl Try.underlying124 rfl info22 rfl) ?_
 refine sx_ox' (ox_store' (i := 0) (o := 2) rfl rfl (lv_sl _ _) ⟨rfl, rfl, rfl, rfl⟩ rfl info22 rfl (H' := [⟨.pointer (some q8), [(Vi a0), (Vi r18), (Sl Kf a1), (Vi 0), Vn], 143, none⟩]) rfl) (wt_none' rfl) fun _ => ?_
 refine nk hK5 ?_
 refine cr fun K6 hK6 => ?_
 refine s0 (rd_move' rfl) ?_
 refine s0 (rd_move' rfl) ?_
 refine s0 (rd_nilck' rfl) ?_
 refine s0 (rd_field0' rfl Try.underlying143 rfl info141 rfl) ?_
 refine s0 (rd_field' (off := 4) rfl Try.underlying141 rfl info24 rfl) ?_
 refine sx_ox' (ox_store' (i := 0) (o := 4) rfl rfl (lv_sl _ _) ⟨rfl, rfl, rfl, rfl⟩ rfl info24 rfl (H' := [⟨.pointer (some q8), [(Vi a0), (Vi r18), (Sl Kf a1), (Vi 0), (Sl (Kl (Ki .i64)) a2)], 143, none⟩]) rfl) (wt_none' rfl) fun _ => ?_
 refine nk hK6 ?_
 refine cr fun K7 hK7 => ?_
 refine s0 (rd_move' rfl) ?_
 refine s0 (rd_assign' rfl) ?_
 refine nk hK7 ?_
 refine cx_retc' ?_
 replace hp := Option.some.inj hp
 subst hp
 refine tx_pick' (L' := [(6, (Vp q8))]) (H' := [⟨.pointer (some q8), [(Vi a0), (Vi r18), (Sl Kf a1), (Vi 0), (Sl (Kl (Ki .i64)) a2)], 143, none⟩]) [0] (sub_cons rfl sub_nil) (by decide) (pick_cons rfl pick_nil) ?_
 exact tx_ret1' Try.results73 rfl q8 (rv_tmp' rfl) (List.Sublist.refl _)

def gogeom_MultiPolygon_SetSRID (k : Nat) (a0_0 : Int) (a0_1 : Int) (a0_2 : List Nat) (a0_3 : Int) (a0_4 : List (List Int)) (a1 : Int) : Option (Int × Int × (List Nat) × Int × (List (List Int))) :=
 some (a0_0, a0_1, a0_2, a1, a0_4)

theorem gogeom_MultiPolygon_SetSRID_sim {k : Nat} {wa0 : Addr} (a0_0 : Int) (a0_1 : Int) (a0_2 : List Nat) (a0_3 : Int) (a0_4 : List (List Int)) (a1 : Int) {out : Int × Int × (List Nat) × Int × (List (List Int))} (hp : gogeom_MultiPolygon_SetSRID k a0_0 a0_1 a0_2 a0_3 a0_4 a1 = some out) : Sx.Fn Try.prog 74 [(Vp wa0), (Vi a1)] [⟨.pointer (some wa0), [(Vi a0_0), (Vi a0_1), (Sl Kf a0_2), (Vi a0_3), (Sl (Kl (Ki .i64)) a0_4)], 143, none⟩] (fun w : Unit => (Vp wa0)) (fun w => [⟨.pointer (some wa0), [(Vi out.1), (Vi out.2.1), (Sl Kf out.2.2.1), (Vi out.2.2.2.1), (Sl (Kl (Ki .i64)) out.2.2.2.2)], 143, none⟩]) := by
 unfold gogeom_MultiPolygon_SetSRID at hp
 refine fn_of Try.func74 rfl Try.ntmps74 rfl fun E hM => ?_
 refine cr fun K1 hK1 => ?_
 refine s0 (rd_assign' rfl) ?_
 refine nk hK1 ?_
 refine cr fun K2 hK2 => ?_
 refine s0 (rd_move' rfl) ?_
 refine s0 (rd_move' rfl) ?_
 refine s0 (rd_nilck' rfl) ?_
 refine s0 (rd_field0' rfl Try.underlying143 rfl info141 rfl) ?_
 refine s0 (rd_field0' rfl Try.underlying141 rfl info126 rfl) ?_
 refine s0 (rd_field0' rfl Try.underlying126 rfl info124 rfl) ?_
 refine s0 (rd_field' (off := 3) rfl Try.underlying124 rfl info3 rfl) ?_
 refine sx_ox' (ox_store' (i := 0) (o := 3) rfl rfl (lv_vl rfl rfl) ⟨rfl, rfl, rfl, rfl⟩ rfl info3 rfl (H' := [⟨.pointer (some wa0), [(Vi a0_0), (Vi a0_1), (Sl Kf a0_2), (Vi a1), (Sl (Kl (Ki .i64)) a0_4)], 143, none⟩]) rfl) (wt_none' rfl) fun _ => ?_
 refine nk hK2 ?_
 refine cr fun K3 hK3 => ?_
 refine s0 (rd_move' rfl) ?_
 refine s0 (rd_assign' rfl) ?_
 refine nk hK3 ?_
 refine cx_retc' ?_
 replace hp := Option.some.inj hp
 subst hp
 refine tx_pick' (L' := [(4, (Vp wa0))]) (H' := [⟨.pointer (some wa0), [(Vi a0_0), (Vi a0_1), (Sl Kf a0_2), (Vi a1), (Sl (Kl (Ki .i64)) a0_4)], 143, none⟩]) [0] (sub_cons rfl sub_nil) (by decide) (pick_cons rfl pick_nil) ?_
 exact tx_ret1' Try.results74 rfl () (rv_tmp' rfl) (List.Sublist.refl _)

def gogeom_NewGeometryCollection (k : Nat)  : Option (Int) :=
 some 0

theorem gogeom_NewGeometryCollection_sim {k : Nat}   {out : Int} (hp : gogeom_NewGeometryCollection k = some out) : Sx.Fn Try.prog 75 [] [] (fun w : Addr => (Vp w)) (fun w => [⟨.pointer (some w), [(Vi out), Vn, (Vi out)], 114, none⟩]) := by
 unfold gogeom_NewGeometryCollection at hp
 refine fn_of Try.func75 rfl Try.ntmps75 rfl fun E hM => ?_
 refine cr fun K1 hK1 => ?_
 refine s0 (rd_assign' rfl) ?_
 refine nk hK1 ?_
 refine cr fun K2 hK2 => ?_
 refine s0 (rd_build' (pls := [(0, 1), (1, 1), (2, 1)]) (qs := []) (r := [(Vi 0), Vn, (Vi 0)]) trivial Try.underlying114 has114 places114 info114 rfl rfl rfl) ?_
 refine sx_ox' (ox_box' rfl (lv_ag _) rfl rfl) (wt_none' rfl) fun q2 => ?_
 refine s0 (rd_assign' rfl) ?_
 refine nk hK2 ?_
 refine cx_retc' ?_
 replace hp := Option.some.inj hp
 subst hp
 refine tx_pick' (L' := [(0, (Vp q2))]) (H' := [⟨.pointer (some q2), [(Vi 0), Vn, (Vi 0)], 114, none⟩]) [0] (sub_cons rfl sub_nil) (by decide) (pick_cons rfl pick_nil) ?_
 exact tx_ret1' Try.results75 rfl q2 (rv_tmp' rfl) (List.Sublist.refl _)

def gogeom_GeometryCollection_SetSRID (k : Nat) (a0_0 : Int) (a0_2 : Int) (a1 : Int) : Option (Int × Int) :=
 some (a0_0, a1)

theorem gogeom_GeometryCollection_SetSRID_sim {k : Nat} {wa0 : Addr} (a0_0 : Int) (a0_2 : Int) (a1 : Int) {out : Int × Int} (hp : gogeom_GeometryCollection_SetSRID k a0_0 a0_2 a1 = some out) : Sx.Fn Try.prog 76 [(Vp wa0), (Vi a1)] [⟨.pointer (some wa0), [(Vi a0_0), Vn, (Vi a0_2)], 114, none⟩] (fun w : Unit => (Vp wa0)) (fun w => [⟨.pointer (some wa0), [(Vi out.1), Vn, (Vi out.2)], 114, none⟩]) := by
 unfold gogeom_GeometryCollection_SetSRID at hp
 refine fn_of Try.func76 rfl Try.ntmps76 rfl fun E hM => ?_
 refine cr fun K1 hK1 => ?_
 refine s0 (rd_assign' rfl) ?_
 refine nk hK1 ?_
 refine cr fun K2 hK2 => ?_
 refine s0 (rd_move' rfl) ?_
 refine s0 (rd_move' rfl) ?_
 refine s0 (rd_nilck' rfl) ?_
 refine s0 (rd_field' (off := 2) rfl Try.underlying114 rfl info3 rfl) ?_
 refine sx_ox' (ox_store' (i := 0) (o := 2) rfl rfl (lv_vl rfl rfl) ⟨rfl, rfl, rfl, rfl⟩ rfl info3 rfl (H' := [⟨.pointer (some wa0), [(Vi a0_0), Vn, (Vi a1)], 114, none⟩]) rfl) (wt_none' rfl) fun _ => ?_
 refine nk hK2 ?_
 refine cr fun K3 hK3 => ?_
 refine s0 (rd_move' rfl) ?_
 refine s0 (rd_assign' rfl) ?_
 refine nk hK3 ?_
 refine cx_retc' ?_
 replace hp := Option.some.inj hp
 subst hp
 refine tx_pick' (L' := [(4, (Vp wa0))]) (H' := [⟨.pointer (some wa0), [(Vi a0_0), Vn, (Vi a1)], 114, none⟩]) [0] (sub_cons rfl sub_nil) (by decide) (pick_cons rfl pick_nil) ?_
 exact tx_ret1' Try.results76 rfl () (rv_tmp' rfl) (List.Sublist.refl _)

def gogeom_GeometryCollection_CheckLayout_j1 (k : Nat) (a0_0 : Int) (a0_2 : Int) : Option (Int × Int) :=
 some (a0_0, a0_2)
def gogeom_GeometryCollection_CheckLayout (k : Nat) (a0_0 : Int) (a0_2 : Int) (a1 : Int) : Option (Int × Int) :=
 br (!decide (a1 = 0))
  (gogeom_GeometryCollection_CheckLayout_j1 k a0_0 a0_2)
  (gogeom_GeometryCollection_CheckLayout_j1 k a0_0 a0_2)

theorem gogeom_GeometryCollection_CheckLayout_sim {k : Nat} {wa0 : Addr} (a0_0 : Int) (a0_2 : Int) (a1 : Int) {out : Int × Int} (hp : gogeom_GeometryCollection_CheckLayout k a0_0 a0_2 a1 = some out) : Sx.Fn Try.prog 79 [(Vp wa0), (Vi a1)] [⟨.pointer (some wa0), [(Vi a0_0), Vn, (Vi a0_2)], 114, none⟩] (fun w : Unit => Ve) (fun w => [⟨.pointer (some wa0), [(Vi out.1), Vn, (Vi out.2)], 114, none⟩]) := by
 unfold gogeom_GeometryCollection_CheckLayout at hp
 refine fn_of Try.func79 rfl Try.ntmps79 rfl fun E hM => ?_
 refine cr fun K1 hK1 => ?_
 refine s0 (rd_assign' rfl) ?_
 refine nk hK1 ?_
 refine cx_join' (fun (v1 : Unit) => (⟨29, [], [], [⟨.pointer (some wa0), [(Vi a0_0), Vn, (Vi a0_2)], 114, none⟩]⟩ : St)) (fun (v1 : Unit) => gogeom_GeometryCollection_CheckLayout_j1 k a0_0 a0_2 = some out) ?_ ?_
 ·rintro ⟨⟩ hp
  replace hp : gogeom_GeometryCollection_CheckLayout_j1 k a0_0 a0_2 = some out := hp
  unfold gogeom_GeometryCollection_CheckLayout_j1 at hp
  refine cr fun K7 hK7 => ?_
  refine s0 (rd_assign' rfl) ?_
  refine nk hK7 ?_
  refine cx_retc' ?_
  replace hp := Option.some.inj hp
  subst hp
  refine tx_pick' (L' := [(4, Ve)]) (H' := [⟨.pointer (some wa0), [(Vi a0_0), Vn, (Vi a0_2)], 114, none⟩]) [0] (sub_cons rfl sub_nil) (by decide) (pick_cons rfl pick_nil) ?_
  exact tx_ret1' Try.results79 rfl () (rv_tmp' rfl) (List.Sublist.refl _)
 intro K2 hK2
 refine cr fun K3 hK3 => ?_
 refine s0 (rd_move' rfl) ?_
 refine s0 (rd_bin' rfl rfl eg_int ru_neq) ?_
 refine nk hK3 ?_
 refine cx_cond' rfl (fun h1 => ?_) (fun h1 => ?_)
 ·replace hp := (br_t h1).symm.trans hp
  refine cr fun K4 hK4 => ?_
  refine s0 (rd_move' rfl) ?_
  refine s0 (rd_nilck' rfl) ?_
  refine s0 (rd_field' (off := 1) rfl Try.underlying114 rfl info112 rfl) ?_
  refine s0 (rd_load' (i := 0) (o := 1) rfl ⟨rfl, rfl, rfl, rfl⟩ rfl flat112) ?_
  refine s0 (rd_lenv' rfl Try.underlying112) ?_
  refine s0 (rd_move' rfl) ?_
  refine nk hK4 ?_
  refine cx_block' ?_
  refine tx_loop' ?_
  refine tx_round' ?_
  refine cr fun K5 hK5 => ?_
  refine s0 (rd_bin' rfl rfl eg_int ru_lss) ?_
  refine nk hK5 ?_
  refine cx_seq' fun K6 hK6 => ?_
  refine cx_cond_f' rfl rfl ?_
  refine cx_exit' ?_
  show TX E K2 _
  exact tx_pick' [0] sub_nil (by decide) (pick_cons rfl pick_nil) (hK2 () hp)
 replace hp := (br_f h1).symm.trans hp
 refine cx_skip' ?_
 show TX E K2 _
 exact tx_pick' [0] sub_nil (by decide) (pick_cons rfl pick_nil) (hK2 () hp)

def gogeom_GeometryCollection_SetLayout (k : Nat) (a0_0 : Int) (a0_2 : Int) (a1 : Int) : Option (Int × Int) :=
 (gogeom_GeometryCollection_CheckLayout k a0_0 a0_2 a1) >>= fun r8 =>
 some (a1, r8.2)

theorem gogeom_GeometryCollection_SetLayout_sim {k : Nat} {wa0 : Addr} (a0_0 : Int) (a0_2 : Int) (a1 : Int) {out : Int × Int} (hp : gogeom_GeometryCollection_SetLayout k a0_0 a0_2 a1 = some out) : Sx.Fn Try.prog 33 [(Vp wa0), (Vi a1)] [⟨.pointer (some wa0), [(Vi a0_0), Vn, (Vi a0_2)], 114, none⟩] (fun w : Unit => Ve) (fun w => [⟨.pointer (some wa0), [(Vi out.1), Vn, (Vi out.2)], 114, none⟩]) := by
 unfold gogeom_GeometryCollection_SetLayout at hp
 refine fn_of Try.func33 rfl Try.ntmps33 rfl fun E hM => ?_
 refine cr fun K1 hK1 => ?_
 refine s0 (rd_assign' rfl) ?_
 refine nk hK1 ?_
 refine cx_seq' fun K2 hK2 => ?_
 refine cr fun K3 hK3 => ?_
 refine s0 (rd_move' rfl) ?_
 refine s0 (rd_move' rfl) ?_
 obtain ⟨r8, hr8, hp⟩ := bind_some hp
 refine sx_ox' (ox_callg' (ent_fn' Try.func79 isn79 rfl rfl) (gogeom_GeometryCollection_CheckLayout_sim _ _ _ hr8 : Sx.Fn Try.prog 79 [(Vp wa0), (Vi a1)] [⟨.pointer (some wa0), [(Vi a0_0), Vn, (Vi a0_2)], 114, none⟩] (fun x : Unit => Ve) (fun x => [⟨.pointer (some wa0), [(Vi r8.1), Vn, (Vi r8.2)], 114, none⟩])) [0] [] (by decide) (pick_cons rfl pick_nil) pick_nil (Hn := fun x : Unit => [⟨.pointer (some wa0), [(Vi r8.1), Vn, (Vi r8.2)], 114, none⟩]) (fun _ => rfl) rfl rfl) (wt_none' rfl) fun ⟨⟩ => ?_
 refine s0 (rd_assign' rfl) ?_
 refine nk hK3 ?_
 refine cr fun K4 hK4 => ?_
 refine s0 (rd_move' rfl) ?_
 refine s0 (rd_binf' rfl rfl (bf_vl (fun _ => by kernel_rfl) nil_neq59_nilif)) ?_
 refine nk hK4 ?_
 refine cx_cond_f' rfl rfl ?_
 refine cx_skip' ?_
 show TX E K2 _
 refine tx_k' hK2 ?_
 refine cr fun K5 hK5 => ?_
 refine s0 (rd_move' rfl) ?_
 refine s0 (rd_move' rfl) ?_
 refine s0 (rd_nilck' rfl) ?_
 refine s0 (rd_field0' rfl Try.underlying114 rfl info61 rfl) ?_
 refine sx_ox' (ox_store' (i := 0) (o := 0) rfl rfl (lv_vl rfl rfl) ⟨rfl, rfl, rfl, rfl⟩ rfl info61 rfl (H' := [⟨.pointer (some wa0), [(Vi a1), Vn, (Vi r8.2)], 114, none⟩]) rfl) (wt_none' rfl) fun _ => ?_
 refine nk hK5 ?_
 refine cr fun K6 hK6 => ?_
 refine s0 (rd_assign' rfl) ?_
 refine nk hK6 ?_
 refine cx_retc' ?_
 replace hp := Option.some.inj hp
 subst hp
 refine tx_pick' (L' := [(4, Ve)]) (H' := [⟨.pointer (some wa0), [(Vi a1), Vn, (Vi r8.2)], 114, none⟩]) [0] (sub_cons rfl sub_nil) (by decide) (pick_cons rfl pick_nil) ?_
 exact tx_ret1' Try.results33 rfl () (rv_tmp' rfl) (List.Sublist.refl _)

def gogeom_GeometryCollection_MustSetLayout (k : Nat) (a0_0 : Int) (a0_2 : Int) (a1 : Int) : Option (Int × Int) :=
 (gogeom_GeometryCollection_SetLayout k a0_0 a0_2 a1) >>= fun r8 =>
 some (r8.1, r8.2)

theorem gogeom_GeometryCollection_MustSetLayout_sim {k : Nat} {wa0 : Addr} (a0_0 : Int) (a0_2 : Int) (a1 : Int) {out : Int × Int} (hp : gogeom_GeometryCollection_MustSetLayout k a0_0 a0_2 a1 = some out) : Sx.Fn Try.prog 78 [(Vp wa0), (Vi a1)] [⟨.pointer (some wa0), [(Vi a0_0), Vn, (Vi a0_2)], 114, none⟩] (fun w : Unit => (Vp wa0)) (fun w => [⟨.pointer (some wa0), [(Vi out.1), Vn, (Vi out.2)], 114, none⟩]) := by
 unfold gogeom_GeometryCollection_MustSetLayout at hp
 refine fn_of Try.func78 rfl Try.ntmps78 rfl fun E hM => ?_
 refine cr fun K1 hK1 => ?_
 refine s0 (rd_assign' rfl) ?_
 refine nk hK1 ?_
 refine cx_seq' fun K2 hK2 => ?_
 refine cr fun K3 hK3 => ?_
 refine s0 (rd_move' rfl) ?_
 refine s0 (rd_move' rfl) ?_
 obtain ⟨r8, hr8, hp⟩ := bind_some hp
 refine sx_ox' (ox_callg' (ent_fn' Try.func33 isn33 rfl rfl) (gogeom_GeometryCollection_SetLayout_sim _ _ _ hr8 : Sx.Fn Try.prog 33 [(Vp wa0), (Vi a1)] [⟨.pointer (some wa0), [(Vi a0_0), Vn, (Vi a0_2)], 114, none⟩] (fun x : Unit => Ve) (fun x => [⟨.pointer (some wa0), [(Vi r8.1), Vn, (Vi r8.2)], 114, none⟩])) [0] [] (by decide) (pick_cons rfl pick_nil) pick_nil (Hn := fun x : Unit => [⟨.pointer (some wa0), [(Vi r8.1), Vn, (Vi r8.2)], 114, none⟩]) (fun _ => rfl) rfl rfl) (wt_none' rfl) fun ⟨⟩ => ?_
 refine s0 (rd_assign' rfl) ?_
 refine nk hK3 ?_
 refine cr fun K4 hK4 => ?_
 refine s0 (rd_move' rfl) ?_
 refine s0 (rd_binf' rfl rfl (bf_vl (fun _ => by kernel_rfl) nil_neq59_nilif)) ?_
 refine nk hK4 ?_
 refine cx_cond_f' rfl rfl ?_
 refine cx_skip' ?_
 show TX E K2 _
 refine tx_k' hK2 ?_
 refine cr fun K5 hK5 => ?_
 refine s0 (rd_move' rfl) ?_
 refine s0 (rd_assign' rfl) ?_
 refine nk hK5 ?_
 refine cx_retc' ?_
 replace hp := Option.some.inj hp
 subst hp
 refine tx_pick' (L' := [(4, (Vp wa0))]) (H' := [⟨.pointer (some wa0), [(Vi r8.1), Vn, (Vi r8.2)], 114, none⟩]) [0] (sub_cons rfl sub_nil) (by decide) (pick_cons rfl pick_nil) ?_
 exact tx_ret1' Try.results78 rfl () (rv_tmp' rfl) (List.Sublist.refl _)

def impl_geometry_b (recf : Int → Int → Int → (List Nat) → (List Int) → (List (List Int)) → (List T27) → Option ((Int × Int × (List Nat) × Int) ⊕ ((Int × Int × (List Nat) × Int) ⊕ ((Int × Int × (List Nat) × Int) ⊕ ((Int × Int × (List Nat) × Int × (List Int)) ⊕ ((Int × Int × (List Nat) × Int × (List Int)) ⊕ ((Int × Int × (List Nat) × Int × (List Int)) ⊕ ((Int × Int × (List Nat) × Int × (List (List Int))) ⊕ (Int × Int))))))))) (k : Nat) (a0_0 : Int) (a0_1 : Int) (a0_2 : Int) (a0_3 : List Nat) (a0_4 : List Int) (a0_5 : List (List Int)) (a0_6 : List T27) : Option ((Int × Int × (List Nat) × Int) ⊕ ((Int × Int × (List Nat) × Int) ⊕ ((Int × Int × (List Nat) × Int) ⊕ ((Int × Int × (List Nat) × Int × (List Int)) ⊕ ((Int × Int × (List Nat) × Int × (List Int)) ⊕ ((Int × Int × (List Nat) × Int × (List Int)) ⊕ ((Int × Int × (List Nat) × Int × (List (List Int))) ⊕ (Int × Int)))))))) :=
 (impl_floats k a0_3) >>= fun r12 =>
 br (decide (a0_0 = 1))
  ((gogeom_NewPointFlat k a0_1 r12) >>= fun r19 =>
  (gogeom_Point_SetSRID k r19.1 r19.2.1 r19.2.2.1 r19.2.2.2 a0_2) >>= fun r22 =>
  some (.inl (r22.1, r22.2.1, r22.2.2.1, r22.2.2.2)))
  (br (decide (a0_0 = 2))
   ((gogeom_NewLineStringFlat k a0_1 r12) >>= fun r28 =>
   (gogeom_LineString_SetSRID k r28.1 r28.2.1 r28.2.2.1 r28.2.2.2 a0_2) >>= fun r31 =>
   some (.inr (.inl (r31.1, r31.2.1, r31.2.2.1, r31.2.2.2))))
   (br (decide (a0_0 = 8))
    ((gogeom_NewLinearRingFlat k a0_1 r12) >>= fun r37 =>
    (gogeom_LinearRing_SetSRID k r37.1 r37.2.1 r37.2.2.1 r37.2.2.2 a0_2) >>= fun r40 =>
    some (.inr (.inr (.inl (r40.1, r40.2.1, r40.2.2.1, r40.2.2.2)))))
    (br (decide (a0_0 = 3))
     ((impl_ints k a0_4) >>= fun r48 =>
     match r48 with
      | (.inl y5) =>
       ((gogeom_NewPolygonFlat k a0_1 r12) >>= fun r49 =>
       (gogeom_Polygon_SetSRID k r49.1 r49.2.1 r49.2.2.1 r49.2.2.2 a0_2) >>= fun r52 =>
       some (.inr (.inr (.inr (.inl (r52.1, r52.2.1, r52.2.2.1, r52.2.2.2, []))))))
      | (.inr y5) =>
       ((gogeom_NewPolygonFlat_v2 k a0_1 r12 y5) >>= fun r49 =>
       (gogeom_Polygon_SetSRID_v2 k r49.1 r49.2.1 r49.2.2.1 r49.2.2.2.1 r49.2.2.2.2 a0_2) >>= fun r52 =>
       some (.inr (.inr (.inr (.inl (r52.1, r52.2.1, r52.2.2.1, r52.2.2.2.1, r52.2.2.2.2)))))))
     (br (decide (a0_0 = 4))
      ((impl_ints k a0_4) >>= fun r60 =>
      match r60 with
       | (.inl y7) =>
        ((gogeom_NewMultiPointFlatOptionWithEnds k) >>= fun r61 =>
        (gogeom_NewMultiPointFlat k a0_1 r12) >>= fun r63 =>
        (gogeom_MultiPoint_SetSRID k r63.1 r63.2.1 r63.2.2.1 r63.2.2.2.1 r63.2.2.2.2 a0_2) >>= fun r66 =>
        some (.inr (.inr (.inr (.inr (.inl (r66.1, r66.2.1, r66.2.2.1, r66.2.2.2.1, r66.2.2.2.2)))))))
       | (.inr y7) =>
        ((gogeom_NewMultiPointFlatOptionWithEnds_v2 k y7) >>= fun r61 =>
        (gogeom_NewMultiPointFlat_v2 k a0_1 r12 r61) >>= fun r63 =>
        (gogeom_MultiPoint_SetSRID_v2 k r63.2.1 r63.2.2.1 r63.2.2.2.1 r63.2.2.2.2 r63.1 a0_2) >>= fun r66 =>
        some (.inr (.inr (.inr (.inr (.inl (r66.1, r66.2.1, r66.2.2.1, r66.2.2.2.1, r66.2.2.2.2))))))))
      (br (decide (a0_0 = 5))
       ((impl_ints k a0_4) >>= fun r74 =>
       match r74 with
        | (.inl y11) =>
         ((gogeom_NewMultiLineStringFlat k a0_1 r12) >>= fun r75 =>
         (gogeom_MultiLineString_SetSRID k r75.1 r75.2.1 r75.2.2.1 r75.2.2.2 a0_2) >>= fun r78 =>
         some (.inr (.inr (.inr (.inr (.inr (.inl (r78.1, r78.2.1, r78.2.2.1, r78.2.2.2, []))))))))
        | (.inr y11) =>
         ((gogeom_NewMultiLineStringFlat_v2 k a0_1 r12 y11) >>= fun r75 =>
         (gogeom_MultiLineString_SetSRID_v2 k r75.1 r75.2.1 r75.2.2.1 r75.2.2.2.1 r75.2.2.2.2 a0_2) >>= fun r78 =>
         some (.inr (.inr (.inr (.inr (.inr (.inl (r78.1, r78.2.1, r78.2.2.1, r78.2.2.2.1, r78.2.2.2.2)))))))))
       (br (decide (a0_0 = 6))
        ((impl_intss k a0_5) >>= fun r86 =>
        (gogeom_NewMultiPolygonFlat k a0_1 r12 r86) >>= fun r87 =>
        (gogeom_MultiPolygon_SetSRID k r87.1 r87.2.1 r87.2.2.1 r87.2.2.2.1 r87.2.2.2.2 a0_2) >>= fun r90 =>
        some (.inr (.inr (.inr (.inr (.inr (.inr (.inl (r90.1, r90.2.1, r90.2.2.1, r90.2.2.2.1, r90.2.2.2.2)))))))))
        (br (decide (a0_0 = 7))
         ((gogeom_NewGeometryCollection k) >>= fun r94 =>
         (gogeom_GeometryCollection_SetSRID k r94 r94 a0_2) >>= fun r97 =>
         br (decide (0 < (a0_6.length : Int)))
          (none)
          ((gogeom_GeometryCollection_MustSetLayout k r97.1 r97.2 a0_1) >>= fun r113 =>
          some (.inr (.inr (.inr (.inr (.inr (.inr (.inr (r113.1, r113.2))))))))))
         (none))))))))
def impl_geometry : Nat → Int → Int → Int → (List Nat) → (List Int) → (List (List Int)) → (List T27) → Option ((Int × Int × (List Nat) × Int) ⊕ ((Int × Int × (List Nat) × Int) ⊕ ((Int × Int × (List Nat) × Int) ⊕ ((Int × Int × (List Nat) × Int × (List Int)) ⊕ ((Int × Int × (List Nat) × Int × (List Int)) ⊕ ((Int × Int × (List Nat) × Int × (List Int)) ⊕ ((Int × Int × (List Nat) × Int × (List (List Int))) ⊕ (Int × Int))))))))
 | 0 => fun _ _ _ _ _ _ _ => none
 | k + 1 => fun a0_0 a0_1 a0_2 a0_3 a0_4 a0_5 a0_6 => impl_geometry_b (impl_geometry k) k a0_0 a0_1 a0_2 a0_3 a0_4 a0_5 a0_6
def impl_geometry_r  (a0_0 : Int) (a0_1 : Int) (a0_2 : Int) (a0_3 : List Nat) (a0_4 : List Int) (a0_5 : List (List Int)) (a0_6 : List T27) (out : (Int × Int × (List Nat) × Int) ⊕ ((Int × Int × (List Nat) × Int) ⊕ ((Int × Int × (List Nat) × Int) ⊕ ((Int × Int × (List Nat) × Int × (List Int)) ⊕ ((Int × Int × (List Nat) × Int × (List Int)) ⊕ ((Int × Int × (List Nat) × Int × (List Int)) ⊕ ((Int × Int × (List Nat) × Int × (List (List Int))) ⊕ (Int × Int)))))))) (w : Addr) : SV := match out with
 | (.inl y) => (If 72 (Vp w))
 | (.inr (.inl y)) => (If 75 (Vp w))
 | (.inr (.inr (.inl y))) => (If 69 (Vp w))
 | (.inr (.inr (.inr (.inl y)))) => (If 67 (Vp w))
 | (.inr (.inr (.inr (.inr (.inl y))))) => (If 70 (Vp w))
 | (.inr (.inr (.inr (.inr (.inr (.inl y)))))) => (If 73 (Vp w))
 | (.inr (.inr (.inr (.inr (.inr (.inr (.inl y))))))) => (If 76 (Vp w))
 | (.inr (.inr (.inr (.inr (.inr (.inr (.inr y))))))) => (If 57 (Vp w))
def impl_geometry_h  (a0_0 : Int) (a0_1 : Int) (a0_2 : Int) (a0_3 : List Nat) (a0_4 : List Int) (a0_5 : List (List Int)) (a0_6 : List T27) (out : (Int × Int × (List Nat) × Int) ⊕ ((Int × Int × (List Nat) × Int) ⊕ ((Int × Int × (List Nat) × Int) ⊕ ((Int × Int × (List Nat) × Int × (List Int)) ⊕ ((Int × Int × (List Nat) × Int × (List Int)) ⊕ ((Int × Int × (List Nat) × Int × (List Int)) ⊕ ((Int × Int × (List Nat) × Int × (List (List Int))) ⊕ (Int × Int)))))))) (w : Addr) : List Res := match out with
 | (.inl y) => [⟨.pointer (some w), [(Vi y.1), (Vi y.2.1), (Sl Kf y.2.2.1), (Vi y.2.2.2)], 135, none⟩]
 | (.inr (.inl y)) => [⟨.pointer (some w), [(Vi y.1), (Vi y.2.1), (Sl Kf y.2.2.1), (Vi y.2.2.2)], 138, none⟩]
 | (.inr (.inr (.inl y))) => [⟨.pointer (some w), [(Vi y.1), (Vi y.2.1), (Sl Kf y.2.2.1), (Vi y.2.2.2)], 128, none⟩]
 | (.inr (.inr (.inr (.inl y)))) => [⟨.pointer (some w), [(Vi y.1), (Vi y.2.1), (Sl Kf y.2.2.1), (Vi y.2.2.2.1), (Sl (Ki .i64) y.2.2.2.2)], 132, none⟩]
 | (.inr (.inr (.inr (.inr (.inl y))))) => [⟨.pointer (some w), [(Vi y.1), (Vi y.2.1), (Sl Kf y.2.2.1), (Vi y.2.2.2.1), (Sl (Ki .i64) y.2.2.2.2)], 136, none⟩]
 | (.inr (.inr (.inr (.inr (.inr (.inl y)))))) => [⟨.pointer (some w), [(Vi y.1), (Vi y.2.1), (Sl Kf y.2.2.1), (Vi y.2.2.2.1), (Sl (Ki .i64) y.2.2.2.2)], 139, none⟩]
 | (.inr (.inr (.inr (.inr (.inr (.inr (.inl y))))))) => [⟨.pointer (some w), [(Vi y.1), (Vi y.2.1), (Sl Kf y.2.2.1), (Vi y.2.2.2.1), (Sl (Kl (Ki .i64)) y.2.2.2.2)], 143, none⟩]
 | (.inr (.inr (.inr (.inr (.inr (.inr (.inr y))))))) => [⟨.pointer (some w), [(Vi y.1), Vn, (Vi y.2)], 114, none⟩]

theorem impl_geometry_b_sim {recf : Int → Int → Int → (List Nat) → (List Int) → (List (List Int)) → (List T27) → Option ((Int × Int × (List Nat) × Int) ⊕ ((Int × Int × (List Nat) × Int) ⊕ ((Int × Int × (List Nat) × Int) ⊕ ((Int × Int × (List Nat) × Int × (List Int)) ⊕ ((Int × Int × (List Nat) × Int × (List Int)) ⊕ ((Int × Int × (List Nat) × Int × (List Int)) ⊕ ((Int × Int × (List Nat) × Int × (List (List Int))) ⊕ (Int × Int))))))))} (hrec : ∀  (a0_0 : Int) (a0_1 : Int) (a0_2 : Int) (a0_3 : List Nat) (a0_4 : List Int) (a0_5 : List (List Int)) (a0_6 : List T27) (out : (Int × Int × (List Nat) × Int) ⊕ ((Int × Int × (List Nat) × Int) ⊕ ((Int × Int × (List Nat) × Int) ⊕ ((Int × Int × (List Nat) × Int × (List Int)) ⊕ ((Int × Int × (List Nat) × Int × (List Int)) ⊕ ((Int × Int × (List Nat) × Int × (List Int)) ⊕ ((Int × Int × (List Nat) × Int × (List (List Int))) ⊕ (Int × Int)))))))), recf a0_0 a0_1 a0_2 a0_3 a0_4 a0_5 a0_6 = some out → Sx.Fn Try.prog 30 [(Ag [(Vi a0_0), (Vi a0_1), (Vi a0_2), (Sl Kf a0_3), (Sl (Ki .i64) a0_4), (Sl (Kl (Ki .i64)) a0_5), (Sl KT27 a0_6)])] [] (fun w => impl_geometry_r a0_0 a0_1 a0_2 a0_3 a0_4 a0_5 a0_6 out w) (fun w => impl_geometry_h a0_0 a0_1 a0_2 a0_3 a0_4 a0_5 a0_6 out w)) {k : Nat}  (a0_0 : Int) (a0_1 : Int) (a0_2 : Int) (a0_3 : List Nat) (a0_4 : List Int) (a0_5 : List (List Int)) (a0_6 : List T27) {out : (Int × Int × (List Nat) × Int) ⊕ ((Int × Int × (List Nat) × Int) ⊕ ((Int × Int × (List Nat) × Int) ⊕ ((Int × Int × (List Nat) × Int × (List Int)) ⊕ ((Int × Int × (List Nat) × Int × (List Int)) ⊕ ((Int × Int × (List Nat) × Int × (List Int)) ⊕ ((Int × Int × (List Nat) × Int × (List (List Int))) ⊕ (Int × Int)))))))} (hp : impl_geometry_b recf k a0_0 a0_1 a0_2 a0_3 a0_4 a0_5 a0_6 = some out) : Sx.Fn Try.prog 30 [(Ag [(Vi a0_0), (Vi a0_1), (Vi a0_2), (Sl Kf a0_3), (Sl (Ki .i64) a0_4), (Sl (Kl (Ki .i64)) a0_5), (Sl KT27 a0_6)])] [] (fun w => impl_geometry_r a0_0 a0_1 a0_2 a0_3 a0_4 a0_5 a0_6 out w) (fun w => impl_geometry_h a0_0 a0_1 a0_2 a0_3 a0_4 a0_5 a0_6 out w) := by
 unfold impl_geometry_b at hp
 refine fn_of Try.func30 rfl Try.ntmps30 rfl fun E hM => ?_
 refine cr fun K1 hK1 => ?_
 refine sx_ox' (ox_box' rfl (lv_ag _) rfl rfl) (wt_none' rfl) fun q1 => ?_
 refine s0 (rd_assign' rfl) ?_
 refine nk hK1 ?_
 refine cx_seq' fun K2 hK2 => ?_
 refine cx_plan' [] [] [(0, 1), (1, 1), (2, 1), (3, 1), (4, 0), (5, 1), (6, 1)] mixed (by kernel_rfl) ?_
 refine px_rd' rfl (rd_field' (off := 1) rfl Try.underlying27 rfl info3 rfl) rfl rfl (wt_none' rfl) ?_
 refine px_rd' rfl (rd_load' (i := 0) (o := 1) rfl ⟨rfl, rfl, rfl, rfl⟩ rfl flat3) rfl rfl (wt_none' rfl) ?_
 refine px_rd' rfl (rd_field' (off := 3) rfl Try.underlying27 rfl info22 rfl) rfl rfl (wt_none' rfl) ?_
 refine px_rd' rfl (rd_load' (i := 0) (o := 3) rfl ⟨rfl, rfl, rfl, rfl⟩ rfl flat22) rfl rfl (wt_none' rfl) ?_
 obtain ⟨r12, hr12, hp⟩ := bind_some hp
 refine px_ox' rfl (ox_calln' (ent_fn' Try.func59 isn59 rfl rfl) (impl_floats_sim _ hr12 : Sx.Fn Try.prog 59 [(Sl Kf a0_3)] [] (fun x : Gs => (Vl (Vs x))) (fun x => [(Rw Kf 32 (Vs x) r12)])) (Hn := fun x : Gs => [(Rw Kf 32 (Vs x) r12), ⟨.pointer (some q1), [(Vi a0_0), (Vi a0_1), (Vi a0_2), (Sl Kf a0_3), (Sl (Ki .i64) a0_4), (Sl (Kl (Ki .i64)) a0_5), (Sl KT27 a0_6)], 27, none⟩]) (fun _ => rfl) rfl rfl) rfl bs_nil (wt_none' rfl) fun g12 => ?_
 refine px_rd' rfl (rd_assign' rfl) rfl rfl (wt_none' rfl) ?_
 refine px_rd' rfl (rd_assign' rfl) rfl rfl (wt_none' rfl) ?_
 refine px_nil' ?_
 show TX E K2 _
 refine tx_k' hK2 ?_
 refine cx_seq' fun K3 hK3 => ?_
 refine cr fun K4 hK4 => ?_
 refine s0 (rd_field0' rfl Try.underlying27 rfl info3 rfl) ?_
 refine s0 (rd_load' (i := 1) (o := 0) rfl ⟨rfl, rfl, rfl, rfl⟩ rfl flat3) ?_
 refine nk hK4 ?_
 refine cx_block' ?_
 refine cr fun K5 hK5 => ?_
 refine s0 (rd_bin' rfl rfl eg_int ru_eql) ?_
 refine s0 (rd_assign' rfl) ?_
 refine nk hK5 ?_
 refine cx_cond' rfl (fun h1 => ?_) (fun h1 => ?_)
 ·replace hp := (br_t h1).symm.trans hp
  refine cx_seq' fun K6 hK6 => ?_
  refine cx_plan' [] [(5, 1)] [(0, 1), (1, 1), (3, 1), (4, 1), (2, 0), (5, 0), (6, 1), (7, 1)] mixed (by kernel_rfl) ?_
  refine px_rd' rfl (rd_move' rfl) rfl rfl (wt_none' rfl) ?_
  refine px_rd' rfl (rd_move' rfl) rfl rfl (wt_none' rfl) ?_
  refine px_rd' rfl (rd_field' (off := 2) rfl Try.underlying27 rfl info3 rfl) rfl rfl (wt_none' rfl) ?_
  refine px_rd' rfl (rd_load' (i := 1) (o := 2) rfl ⟨rfl, rfl, rfl, rfl⟩ rfl flat3) rfl rfl (wt_none' rfl) ?_
  refine tx_fz' (frz_row 0 [(12, (Vl (Vs g12)), (Sl Kf r12)), (4, (Vl (Vs g12)), (Sl Kf r12)), (18, (Vl (Vs g12)), (Sl Kf r12))] (K := Kf) (xs := r12) (by decide) rfl ⟨⟨rfl, frz_it⟩, ⟨rfl, frz_it⟩, ⟨rfl, frz_it⟩, trivial⟩ (H' := [⟨.pointer (some q1), [(Vi a0_0), (Vi a0_1), (Vi a0_2), (Sl Kf a0_3), (Sl (Ki .i64) a0_4), (Sl (Kl (Ki .i64)) a0_5), (Sl KT27 a0_6)], 27, none⟩]) frzH_refl) ?_
  obtain ⟨r19, hr19, hp⟩ := bind_some hp
  refine px_ox' rfl (ox_calln' (ent_fn' Try.func60 isn60 rfl rfl) (gogeom_NewPointFlat_sim _ _ hr19 : Sx.Fn Try.prog 60 [(Vi a0_1), (Sl Kf r12)] [] (fun x : Addr => (Vp x)) (fun x => [⟨.pointer (some x), [(Vi r19.1), (Vi r19.2.1), (Sl Kf r19.2.2.1), (Vi r19.2.2.2)], 135, none⟩])) (Hn := fun x : Addr => [⟨.pointer (some x), [(Vi r19.1), (Vi r19.2.1), (Sl Kf r19.2.2.1), (Vi r19.2.2.2)], 135, none⟩, ⟨.pointer (some q1), [(Vi a0_0), (Vi a0_1), (Vi a0_2), (Sl Kf a0_3), (Sl (Ki .i64) a0_4), (Sl (Kl (Ki .i64)) a0_5), (Sl KT27 a0_6)], 27, none⟩]) (fun _ => rfl) rfl rfl) rfl bs_nil (wt_none' rfl) fun q19 => ?_
  obtain ⟨r22, hr22, hp⟩ := bind_some hp
  refine px_oxb' (is := [0]) rfl (oxb_callg (ent_fn' Try.func61 isn61 rfl rfl) (gogeom_Point_SetSRID_sim _ _ _ _ _ hr22 : Sx.Fn Try.prog 61 [(Vp q19), (Vi a0_2)] [⟨.pointer (some q19), [(Vi r19.1), (Vi r19.2.1), (Sl Kf r19.2.2.1), (Vi r19.2.2.2)], 135, none⟩] (fun x : Unit => (Vp q19)) (fun x => [⟨.pointer (some q19), [(Vi r22.1), (Vi r22.2.1), (Sl Kf r22.2.2.1), (Vi r22.2.2.2)], 135, none⟩])) [0] [1] (by decide) (pick_cons rfl pick_nil) (pick_cons rfl pick_nil) (Hn := fun x : Unit => [⟨.pointer (some q19), [(Vi r22.1), (Vi r22.2.1), (Sl Kf r22.2.2.1), (Vi r22.2.2.2)], 135, none⟩, ⟨.pointer (some q1), [(Vi a0_0), (Vi a0_1), (Vi a0_2), (Sl Kf a0_3), (Sl (Ki .i64) a0_4), (Sl (Kl (Ki .i64)) a0_5), (Sl KT27 a0_6)], 27, none⟩]) (fun _ => rfl) rfl rfl) (pick_cons rfl pick_nil) rfl bl_nil (wt_none' rfl) fun ⟨⟩ => ?_
  refine px_rd' rfl (rd_iface' rfl ⟨_, Try.underlying72, fun _ h => (nomatch h)⟩) rfl rfl (wt_none' rfl) ?_
  refine px_rd' rfl (rd_assign' rfl) rfl rfl (wt_none' rfl) ?_
  refine px_nil' ?_
  show TX E K6 _
  refine tx_k' hK6 ?_
  refine cx_retc' ?_
  replace hp := Option.some.inj hp
  subst hp
  refine tx_pick' (L' := [(2, (If 72 (Vp q19)))]) (H' := [⟨.pointer (some q19), [(Vi r22.1), (Vi r22.2.1), (Sl Kf r22.2.2.1), (Vi r22.2.2.2)], 135, none⟩]) [0] (sub_cons rfl sub_nil) (by decide) (pick_cons rfl pick_nil) ?_
  exact tx_ret1' Try.results30 rfl q19 (rv_tmp' rfl) (List.Sublist.refl _)
 replace hp := (br_f h1).symm.trans hp
 refine cr fun K7 hK7 => ?_
 refine s0 (rd_bin' rfl rfl eg_int ru_eql) ?_
 refine s0 (rd_assign' rfl) ?_
 refine nk hK7 ?_
 refine cx_cond' rfl (fun h2 => ?_) (fun h2 => ?_)
 ·replace hp := (br_t h2).symm.trans hp
  refine cx_seq' fun K8 hK8 => ?_
  refine cx_plan' [] [(5, 1)] [(0, 1), (1, 1), (3, 1), (4, 1), (2, 0), (5, 0), (6, 1), (7, 1)] mixed (by kernel_rfl) ?_
  refine px_rd' rfl (rd_move' rfl) rfl rfl (wt_none' rfl) ?_
  refine px_rd' rfl (rd_move' rfl) rfl rfl (wt_none' rfl) ?_
  refine px_rd' rfl (rd_field' (off := 2) rfl Try.underlying27 rfl info3 rfl) rfl rfl (wt_none' rfl) ?_
  refine px_rd' rfl (rd_load' (i := 1) (o := 2) rfl ⟨rfl, rfl, rfl, rfl⟩ rfl flat3) rfl rfl (wt_none' rfl) ?_
  refine tx_fz' (frz_row 0 [(12, (Vl (Vs g12)), (Sl Kf r12)), (4, (Vl (Vs g12)), (Sl Kf r12)), (27, (Vl (Vs g12)), (Sl Kf r12))] (K := Kf) (xs := r12) (by decide) rfl ⟨⟨rfl, frz_it⟩, ⟨rfl, frz_it⟩, ⟨rfl, frz_it⟩, trivial⟩ (H' := [⟨.pointer (some q1), [(Vi a0_0), (Vi a0_1), (Vi a0_2), (Sl Kf a0_3), (Sl (Ki .i64) a0_4), (Sl (Kl (Ki .i64)) a0_5), (Sl KT27 a0_6)], 27, none⟩]) frzH_refl) ?_
  obtain ⟨r28, hr28, hp⟩ := bind_some hp
  refine px_ox' rfl (ox_calln' (ent_fn' Try.func62 isn62 rfl rfl) (gogeom_NewLineStringFlat_sim _ _ hr28 : Sx.Fn Try.prog 62 [(Vi a0_1), (Sl Kf r12)] [] (fun x : Addr => (Vp x)) (fun x => [⟨.pointer (some x), [(Vi r28.1), (Vi r28.2.1), (Sl Kf r28.2.2.1), (Vi r28.2.2.2)], 138, none⟩])) (Hn := fun x : Addr => [⟨.pointer (some x), [(Vi r28.1), (Vi r28.2.1), (Sl Kf r28.2.2.1), (Vi r28.2.2.2)], 138, none⟩, ⟨.pointer (some q1), [(Vi a0_0), (Vi a0_1), (Vi a0_2), (Sl Kf a0_3), (Sl (Ki .i64) a0_4), (Sl (Kl (Ki .i64)) a0_5), (Sl KT27 a0_6)], 27, none⟩]) (fun _ => rfl) rfl rfl) rfl bs_nil (wt_none' rfl) fun q28 => ?_
  obtain ⟨r31, hr31, hp⟩ := bind_some hp
  refine px_oxb' (is := [0]) rfl (oxb_callg (ent_fn' Try.func63 isn63 rfl rfl) (gogeom_LineString_SetSRID_sim _ _ _ _ _ hr31 : Sx.Fn Try.prog 63 [(Vp q28), (Vi a0_2)] [⟨.pointer (some q28), [(Vi r28.1), (Vi r28.2.1), (Sl Kf r28.2.2.1), (Vi r28.2.2.2)], 138, none⟩] (fun x : Unit => (Vp q28)) (fun x => [⟨.pointer (some q28), [(Vi r31.1), (Vi r31.2.1), (Sl Kf r31.2.2.1), (Vi r31.2.2.2)], 138, none⟩])) [0] [1] (by decide) (pick_cons rfl pick_nil) (pick_cons rfl pick_nil) (Hn := fun x : Unit => [⟨.pointer (some q28), [(Vi r31.1), (Vi r31.2.1), (Sl Kf r31.2.2.1), (Vi r31.2.2.2)], 138, none⟩, ⟨.pointer (some q1), [(Vi a0_0), (Vi a0_1), (Vi a0_2), (Sl Kf a0_3), (Sl (Ki .i64) a0_4), (Sl (Kl (Ki .i64)) a0_5), (Sl KT27 a0_6)], 27, none⟩]) (fun _ => rfl) rfl rfl) (pick_cons rfl pick_nil) rfl bl_nil (wt_none' rfl) fun ⟨⟩ => ?_
  refine px_rd' rfl (rd_iface' rfl ⟨_, Try.underlying75, fun _ h => (nomatch h)⟩) rfl rfl (wt_none' rfl) ?_
  refine px_rd' rfl (rd_assign' rfl) rfl rfl (wt_none' rfl) ?_
  refine px_nil' ?_
  show TX E K8 _
  refine tx_k' hK8 ?_
  refine cx_retc' ?_
  replace hp := Option.some.inj hp
  subst hp
  refine tx_pick' (L' := [(2, (If 75 (Vp q28)))]) (H' := [⟨.pointer (some q28), [(Vi r31.1), (Vi r31.2.1), (Sl Kf r31.2.2.1), (Vi r31.2.2.2)], 138, none⟩]) [0] (sub_cons rfl sub_nil) (by decide) (pick_cons rfl pick_nil) ?_
  exact tx_ret1' Try.results30 rfl q28 (rv_tmp' rfl) (List.Sublist.refl _)
 replace hp := (br_f h2).symm.trans hp
 refine cr fun K9 hK9 => ?_
 refine s0 (rd_bin' rfl rfl eg_int ru_eql) ?_
 refine s0 (rd_assign' rfl) ?_
 refine nk hK9 ?_
 refine cx_cond' rfl (fun h3 => ?_) (fun h3 => ?_)
 ·replace hp := (br_t h3).symm.trans hp
  refine cx_seq' fun K10 hK10 => ?_
  refine cx_plan' [] [(5, 1)] [(0, 1), (1, 1), (3, 1), (4, 1), (2, 0), (5, 0), (6, 1), (7, 1)] mixed (by kernel_rfl) ?_
  refine px_rd' rfl (rd_move' rfl) rfl rfl (wt_none' rfl) ?_
  refine px_rd' rfl (rd_move' rfl) rfl rfl (wt_none' rfl) ?_
  refine px_rd' rfl (rd_field' (off := 2) rfl Try.underlying27 rfl info3 rfl) rfl rfl (wt_none' rfl) ?_
  refine px_rd' rfl (rd_load' (i := 1) (o := 2) rfl ⟨rfl, rfl, rfl, rfl⟩ rfl flat3) rfl rfl (wt_none' rfl) ?_
  refine tx_fz' (frz_row 0 [(12, (Vl (Vs g12)), (Sl Kf r12)), (4, (Vl (Vs g12)), (Sl Kf r12)), (36, (Vl (Vs g12)), (Sl Kf r12))] (K := Kf) (xs := r12) (by decide) rfl ⟨⟨rfl, frz_it⟩, ⟨rfl, frz_it⟩, ⟨rfl, frz_it⟩, trivial⟩ (H' := [⟨.pointer (some q1), [(Vi a0_0), (Vi a0_1), (Vi a0_2), (Sl Kf a0_3), (Sl (Ki .i64) a0_4), (Sl (Kl (Ki .i64)) a0_5), (Sl KT27 a0_6)], 27, none⟩]) frzH_refl) ?_
  obtain ⟨r37, hr37, hp⟩ := bind_some hp
  refine px_ox' rfl (ox_calln' (ent_fn' Try.func64 isn64 rfl rfl) (gogeom_NewLinearRingFlat_sim _ _ hr37 : Sx.Fn Try.prog 64 [(Vi a0_1), (Sl Kf r12)] [] (fun x : Addr => (Vp x)) (fun x => [⟨.pointer (some x), [(Vi r37.1), (Vi r37.2.1), (Sl Kf r37.2.2.1), (Vi r37.2.2.2)], 128, none⟩])) (Hn := fun x : Addr => [⟨.pointer (some x), [(Vi r37.1), (Vi r37.2.1), (Sl Kf r37.2.2.1), (Vi r37.2.2.2)], 128, none⟩, ⟨.pointer (some q1), [(Vi a0_0), (Vi a0_1), (Vi a0_2), (Sl Kf a0_3), (Sl (Ki .i64) a0_4), (Sl (Kl (Ki .i64)) a0_5), (Sl KT27 a0_6)], 27, none⟩]) (fun _ => rfl) rfl rfl) rfl bs_nil (wt_none' rfl) fun q37 => ?_
  obtain ⟨r40, hr40, hp⟩ := bind_some hp
  refine px_oxb' (is := [0]) rfl (oxb_callg (ent_fn' Try.func65 isn65 rfl rfl) (gogeom_LinearRing_SetSRID_sim _ _ _ _ _ hr40 : Sx.Fn Try.prog 65 [(Vp q37), (Vi a0_2)] [⟨.pointer (some q37), [(Vi r37.1), (Vi r37.2.1), (Sl Kf r37.2.2.1), (Vi r37.2.2.2)], 128, none⟩] (fun x : Unit => (Vp q37)) (fun x => [⟨.pointer (some q37), [(Vi r40.1), (Vi r40.2.1), (Sl Kf r40.2.2.1), (Vi r40.2.2.2)], 128, none⟩])) [0] [1] (by decide) (pick_cons rfl pick_nil) (pick_cons rfl pick_nil) (Hn := fun x : Unit => [⟨.pointer (some q37), [(Vi r40.1), (Vi r40.2.1), (Sl Kf r40.2.2.1), (Vi r40.2.2.2)], 128, none⟩, ⟨.pointer (some q1), [(Vi a0_0), (Vi a0_1), (Vi a0_2), (Sl Kf a0_3), (Sl (Ki .i64) a0_4), (Sl (Kl (Ki .i64)) a0_5), (Sl KT27 a0_6)], 27, none⟩]) (fun _ => rfl) rfl rfl) (pick_cons rfl pick_nil) rfl bl_nil (wt_none' rfl) fun ⟨⟩ => ?_
  refine px_rd' rfl (rd_iface' rfl ⟨_, Try.underlying69, fun _ h => (nomatch h)⟩) rfl rfl (wt_none' rfl) ?_
  refine px_rd' rfl (rd_assign' rfl) rfl rfl (wt_none' rfl) ?_
  refine px_nil' ?_
  show TX E K10 _
  refine tx_k' hK10 ?_
  refine cx_retc' ?_
  replace hp := Option.some.inj hp
  subst hp
  refine tx_pick' (L' := [(2, (If 69 (Vp q37)))]) (H' := [⟨.pointer (some q37), [(Vi r40.1), (Vi r40.2.1), (Sl Kf r40.2.2.1), (Vi r40.2.2.2)], 128, none⟩]) [0] (sub_cons rfl sub_nil) (by decide) (pick_cons rfl pick_nil) ?_
  exact tx_ret1' Try.results30 rfl q37 (rv_tmp' rfl) (List.Sublist.refl _)
 replace hp := (br_f h3).symm.trans hp
 refine cr fun K11 hK11 => ?_
 refine s0 (rd_bin' rfl rfl eg_int ru_eql) ?_
 refine s0 (rd_assign' rfl) ?_
 refine nk hK11 ?_
 refine cx_cond' rfl (fun h4 => ?_) (fun h4 => ?_)
 ·replace hp := (br_t h4).symm.trans hp
  refine cx_seq' fun K12 hK12 => ?_
  refine cx_plan' [] [(8, 1)] [(0, 1), (1, 1), (2, 1), (3, 1), (6, 1), (7, 1), (4, 0), (5, 0), (8, 0), (9, 1), (10, 1)] mixed (by kernel_rfl) ?_
  refine px_rd' rfl (rd_move' rfl) rfl rfl (wt_none' rfl) ?_
  refine px_rd' rfl (rd_move' rfl) rfl rfl (wt_none' rfl) ?_
  refine px_rd' rfl (rd_field' (off := 4) rfl Try.underlying27 rfl info23 rfl) rfl rfl (wt_none' rfl) ?_
  refine px_rd' rfl (rd_load' (i := 1) (o := 4) rfl ⟨rfl, rfl, rfl, rfl⟩ rfl flat23) rfl rfl (wt_none' rfl) ?_
  refine px_rd' rfl (rd_field' (off := 2) rfl Try.underlying27 rfl info3 rfl) rfl rfl (wt_none' rfl) ?_
  refine px_rd' rfl (rd_load' (i := 1) (o := 2) rfl ⟨rfl, rfl, rfl, rfl⟩ rfl flat3) rfl rfl (wt_none' rfl) ?_
  obtain ⟨r48, hr48, hp⟩ := bind_some hp
  rcases r48 with y5 | y5
  ·dsimp only at hp
   refine px_ox' rfl (ox_calln' (ent_fn' Try.func58 isn58 rfl rfl) (impl_ints_sim _ hr48 : Sx.Fn Try.prog 58 [(Sl (Ki .i64) a0_4)] [] (fun x : Unit => Vn) (fun x => [])) (Hn := fun x : Unit => [(Rw Kf 32 (Vs g12) r12), ⟨.pointer (some q1), [(Vi a0_0), (Vi a0_1), (Vi a0_2), (Sl Kf a0_3), (Sl (Ki .i64) a0_4), (Sl (Kl (Ki .i64)) a0_5), (Sl KT27 a0_6)], 27, none⟩]) (fun _ => rfl) rfl rfl) rfl bs_nil (wt_none' rfl) fun ⟨⟩ => ?_
   refine tx_fz' (frz_row 0 [(12, (Vl (Vs g12)), (Sl Kf r12)), (4, (Vl (Vs g12)), (Sl Kf r12)), (45, (Vl (Vs g12)), (Sl Kf r12))] (K := Kf) (xs := r12) (by decide) rfl ⟨⟨rfl, frz_it⟩, ⟨rfl, frz_it⟩, ⟨rfl, frz_it⟩, trivial⟩ (H' := [⟨.pointer (some q1), [(Vi a0_0), (Vi a0_1), (Vi a0_2), (Sl Kf a0_3), (Sl (Ki .i64) a0_4), (Sl (Kl (Ki .i64)) a0_5), (Sl KT27 a0_6)], 27, none⟩]) frzH_refl) ?_
   obtain ⟨r49, hr49, hp⟩ := bind_some hp
   refine px_ox' rfl (ox_calln' (ent_fn' Try.func66 isn66 rfl rfl) (gogeom_NewPolygonFlat_sim _ _ hr49 : Sx.Fn Try.prog 66 [(Vi a0_1), (Sl Kf r12), Vn] [] (fun x : Addr => (Vp x)) (fun x => [⟨.pointer (some x), [(Vi r49.1), (Vi r49.2.1), (Sl Kf r49.2.2.1), (Vi r49.2.2.2), Vn], 132, none⟩])) (Hn := fun x : Addr => [⟨.pointer (some x), [(Vi r49.1), (Vi r49.2.1), (Sl Kf r49.2.2.1), (Vi r49.2.2.2), Vn], 132, none⟩, ⟨.pointer (some q1), [(Vi a0_0), (Vi a0_1), (Vi a0_2), (Sl Kf a0_3), (Sl (Ki .i64) a0_4), (Sl (Kl (Ki .i64)) a0_5), (Sl KT27 a0_6)], 27, none⟩]) (fun _ => rfl) rfl rfl) rfl bs_nil (wt_none' rfl) fun q49 => ?_
   obtain ⟨r52, hr52, hp⟩ := bind_some hp
   refine px_oxb' (is := [0]) rfl (oxb_callg (ent_fn' Try.func67 isn67 rfl rfl) (gogeom_Polygon_SetSRID_sim _ _ _ _ _ hr52 : Sx.Fn Try.prog 67 [(Vp q49), (Vi a0_2)] [⟨.pointer (some q49), [(Vi r49.1), (Vi r49.2.1), (Sl Kf r49.2.2.1), (Vi r49.2.2.2), Vn], 132, none⟩] (fun x : Unit => (Vp q49)) (fun x => [⟨.pointer (some q49), [(Vi r52.1), (Vi r52.2.1), (Sl Kf r52.2.2.1), (Vi r52.2.2.2), Vn], 132, none⟩])) [0] [1] (by decide) (pick_cons rfl pick_nil) (pick_cons rfl pick_nil) (Hn := fun x : Unit => [⟨.pointer (some q49), [(Vi r52.1), (Vi r52.2.1), (Sl Kf r52.2.2.1), (Vi r52.2.2.2), Vn], 132, none⟩, ⟨.pointer (some q1), [(Vi a0_0), (Vi a0_1), (Vi a0_2), (Sl Kf a0_3), (Sl (Ki .i64) a0_4), (Sl (Kl (Ki .i64)) a0_5), (Sl KT27 a0_6)], 27, none⟩]) (fun _ => rfl) rfl rfl) (pick_cons rfl pick_nil) rfl bl_nil (wt_none' rfl) fun ⟨⟩ => ?_
   refine px_rd' rfl (rd_iface' rfl ⟨_, Try.underlying67, fun _ h => (nomatch h)⟩) rfl rfl (wt_none' rfl) ?_
   refine px_rd' rfl (rd_assign' rfl) rfl rfl (wt_none' rfl) ?_
   refine px_nil' ?_
   show TX E K12 _
   refine tx_k' hK12 ?_
   refine cx_retc' ?_
   replace hp := Option.some.inj hp
   subst hp
   refine tx_cell' 0 4 (y := (Sl (Ki .i64) [])) rfl rfl imp_nil (H' := [⟨.pointer (some q49), [(Vi r52.1), (Vi r52.2.1), (Sl Kf r52.2.2.1), (Vi r52.2.2.2), (Sl (Ki .i64) [])], 132, none⟩, ⟨.pointer (some q1), [(Vi a0_0), (Vi a0_1), (Vi a0_2), (Sl Kf a0_3), (Sl (Ki .i64) a0_4), (Sl (Kl (Ki .i64)) a0_5), (Sl KT27 a0_6)], 27, none⟩]) rfl ?_
   refine tx_pick' (L' := [(2, (If 67 (Vp q49)))]) (H' := [⟨.pointer (some q49), [(Vi r52.1), (Vi r52.2.1), (Sl Kf r52.2.2.1), (Vi r52.2.2.2), (Sl (Ki .i64) [])], 132, none⟩]) [0] (sub_cons rfl sub_nil) (by decide) (pick_cons rfl pick_nil) ?_
   exact tx_ret1' Try.results30 rfl q49 (rv_tmp' rfl) (List.Sublist.refl _)
  dsimp only at hp
  refine px_ox' rfl (ox_calln' (ent_fn' Try.func58 isn58 rfl rfl) (impl_ints_sim _ hr48 : Sx.Fn Try.prog 58 [(Sl (Ki .i64) a0_4)] [] (fun x : Unit => (Sl (Ki .i64) y5)) (fun x => [])) (Hn := fun x : Unit => [(Rw Kf 32 (Vs g12) r12), ⟨.pointer (some q1), [(Vi a0_0), (Vi a0_1), (Vi a0_2), (Sl Kf a0_3), (Sl (Ki .i64) a0_4), (Sl (Kl (Ki .i64)) a0_5), (Sl KT27 a0_6)], 27, none⟩]) (fun _ => rfl) rfl rfl) rfl bs_nil (wt_none' rfl) fun ⟨⟩ => ?_
  refine tx_fz' (frz_row 0 [(12, (Vl (Vs g12)), (Sl Kf r12)), (4, (Vl (Vs g12)), (Sl Kf r12)), (45, (Vl (Vs g12)), (Sl Kf r12))] (K := Kf) (xs := r12) (by decide) rfl ⟨⟨rfl, frz_it⟩, ⟨rfl, frz_it⟩, ⟨rfl, frz_it⟩, trivial⟩ (H' := [⟨.pointer (some q1), [(Vi a0_0), (Vi a0_1), (Vi a0_2), (Sl Kf a0_3), (Sl (Ki .i64) a0_4), (Sl (Kl (Ki .i64)) a0_5), (Sl KT27 a0_6)], 27, none⟩]) frzH_refl) ?_
  obtain ⟨r49, hr49, hp⟩ := bind_some hp
  refine px_ox' rfl (ox_calln' (ent_fn' Try.func66 isn66 rfl rfl) (gogeom_NewPolygonFlat_v2_sim _ _ _ hr49 : Sx.Fn Try.prog 66 [(Vi a0_1), (Sl Kf r12), (Sl (Ki .i64) y5)] [] (fun x : Addr => (Vp x)) (fun x => [⟨.pointer (some x), [(Vi r49.1), (Vi r49.2.1), (Sl Kf r49.2.2.1), (Vi r49.2.2.2.1), (Sl (Ki .i64) r49.2.2.2.2)], 132, none⟩])) (Hn := fun x : Addr => [⟨.pointer (some x), [(Vi r49.1), (Vi r49.2.1), (Sl Kf r49.2.2.1), (Vi r49.2.2.2.1), (Sl (Ki .i64) r49.2.2.2.2)], 132, none⟩, ⟨.pointer (some q1), [(Vi a0_0), (Vi a0_1), (Vi a0_2), (Sl Kf a0_3), (Sl (Ki .i64) a0_4), (Sl (Kl (Ki .i64)) a0_5), (Sl KT27 a0_6)], 27, none⟩]) (fun _ => rfl) rfl rfl) rfl bs_nil (wt_none' rfl) fun q49 => ?_
  obtain ⟨r52, hr52, hp⟩ := bind_some hp
  refine px_oxb' (is := [0]) rfl (oxb_callg (ent_fn' Try.func67 isn67 rfl rfl) (gogeom_Polygon_SetSRID_v2_sim _ _ _ _ _ _ hr52 : Sx.Fn Try.prog 67 [(Vp q49), (Vi a0_2)] [⟨.pointer (some q49), [(Vi r49.1), (Vi r49.2.1), (Sl Kf r49.2.2.1), (Vi r49.2.2.2.1), (Sl (Ki .i64) r49.2.2.2.2)], 132, none⟩] (fun x : Unit => (Vp q49)) (fun x => [⟨.pointer (some q49), [(Vi r52.1), (Vi r52.2.1), (Sl Kf r52.2.2.1), (Vi r52.2.2.2.1), (Sl (Ki .i64) r52.2.2.2.2)], 132, none⟩])) [0] [1] (by decide) (pick_cons rfl pick_nil) (pick_cons rfl pick_nil) (Hn := fun x : Unit => [⟨.pointer (some q49), [(Vi r52.1), (Vi r52.2.1), (Sl Kf r52.2.2.1), (Vi r52.2.2.2.1), (Sl (Ki .i64) r52.2.2.2.2)], 132, none⟩, ⟨.pointer (some q1), [(Vi a0_0), (Vi a0_1), (Vi a0_2), (Sl Kf a0_3), (Sl (Ki .i64) a0_4), (Sl (Kl (Ki .i64)) a0_5), (Sl KT27 a0_6)], 27, none⟩]) (fun _ => rfl) rfl rfl) (pick_cons rfl pick_nil) rfl bl_nil (wt_none' rfl) fun ⟨⟩ => ?_
  refine px_rd' rfl (rd_iface' rfl ⟨_, Try.underlying67, fun _ h => (nomatch h)⟩) rfl rfl (wt_none' rfl) ?_
  refine px_rd' rfl (rd_assign' rfl) rfl rfl (wt_none' rfl) ?_
  refine px_nil' ?_
  show TX E K12 _
  refine tx_k' hK12 ?_
  refine cx_retc' ?_
  replace hp := Option.some.inj hp
  subst hp
  refine tx_pick' (L' := [(2, (If 67 (Vp q49)))]) (H' := [⟨.pointer (some q49), [(Vi r52.1), (Vi r52.2.1), (Sl Kf r52.2.2.1), (Vi r52.2.2.2.1), (Sl (Ki .i64) r52.2.2.2.2)], 132, none⟩]) [0] (sub_cons rfl sub_nil) (by decide) (pick_cons rfl pick_nil) ?_
  exact tx_ret1' Try.results30 rfl q49 (rv_tmp' rfl) (List.Sublist.refl _)
 replace hp := (br_f h4).symm.trans hp
 refine cr fun K13 hK13 => ?_
 refine s0 (rd_bin' rfl rfl eg_int ru_eql) ?_
 refine s0 (rd_assign' rfl) ?_
 refine nk hK13 ?_
 refine cx_cond' rfl (fun h5 => ?_) (fun h5 => ?_)
 ·replace hp := (br_t h5).symm.trans hp
  refine cx_seq' fun K14 hK14 => ?_
  refine cx_plan' [q1.block] [(7, 1), (10, 1)] [(0, 1), (1, 1), (2, 1), (3, 1), (8, 2), (9, 2), (4, 0), (5, 0), (6, 0), (7, 0), (10, 0), (11, 1), (12, 1)] mixed (by kernel_rfl) ?_
  refine px_rd' rfl (rd_move' rfl) rfl rfl (wt_none' rfl) ?_
  refine px_rd' rfl (rd_move' rfl) rfl rfl (wt_none' rfl) ?_
  refine px_rd' rfl (rd_field' (off := 4) rfl Try.underlying27 rfl info23 rfl) rfl rfl (wt_none' rfl) ?_
  refine px_rd' rfl (rd_load' (i := 1) (o := 4) rfl ⟨rfl, rfl, rfl, rfl⟩ rfl flat23) rfl rfl (wt_none' rfl) ?_
  refine px_rb' rfl (rb_field' (off := 2) rfl Try.underlying27 rfl info3 rfl) rfl rfl (wt_none' rfl) ?_
  refine px_rb' rfl (rb_load' (i := 1) (o := 2) rfl ⟨rfl, rfl, rfl, rfl⟩ rfl flat3 (by simp)) rfl rfl (wt_none' rfl) ?_
  obtain ⟨r60, hr60, hp⟩ := bind_some hp
  rcases r60 with y7 | y7
  ·dsimp only at hp
   refine px_ox' rfl (ox_calln' (ent_fn' Try.func58 isn58 rfl rfl) (impl_ints_sim _ hr60 : Sx.Fn Try.prog 58 [(Sl (Ki .i64) a0_4)] [] (fun x : Unit => Vn) (fun x => [])) (Hn := fun x : Unit => [(Rw Kf 32 (Vs g12) r12), ⟨.pointer (some q1), [(Vi a0_0), (Vi a0_1), (Vi a0_2), (Sl Kf a0_3), (Sl (Ki .i64) a0_4), (Sl (Kl (Ki .i64)) a0_5), (Sl KT27 a0_6)], 27, none⟩]) (fun _ => rfl) rfl rfl) rfl (bs_cons (m := 1) rfl rfl rfl bs_nil) (wt_none' rfl) fun ⟨⟩ => ?_
   obtain ⟨r61, hr61, hp⟩ := bind_some hp
   refine px_ox' rfl (ox_calln' (ent_fn' Try.func69 isn69 rfl rfl) (gogeom_NewMultiPointFlatOptionWithEnds_sim hr61 : Sx.Fn Try.prog 69 [Vn] [] (fun x : Addr => (Vl (.func (.func 90) #[] ⟨[.pointer (some x)]⟩))) (fun x => [⟨.pointer (some x), [Vn], 23, none⟩])) (Hn := fun x : Addr => [⟨.pointer (some x), [Vn], 23, none⟩, (Rw Kf 32 (Vs g12) r12), ⟨.pointer (some q1), [(Vi a0_0), (Vi a0_1), (Vi a0_2), (Sl Kf a0_3), (Sl (Ki .i64) a0_4), (Sl (Kl (Ki .i64)) a0_5), (Sl KT27 a0_6)], 27, none⟩]) (fun _ => rfl) rfl rfl) rfl (bs_cons (m := 1) rfl rfl rfl bs_nil) (wt_none' rfl) fun q61 => ?_
   refine px_ox' rfl (ox_srow' (es := 1) (r := [(Vl (.func (.func 90) #[] ⟨[.pointer (some q61)]⟩))]) (qs := [(0, [(Vl (.func (.func 90) #[] ⟨[.pointer (some q61)]⟩))])]) ⟨rfl, ⟨_, rfl, (lv_vl rfl rfl)⟩, trivial⟩ Try.underlying153 info101 rfl rfl rfl rfl rfl rfl rfl rfl rfl) rfl (bs_cons (m := 2) rfl rfl rfl bs_nil) (wt_none' rfl) fun q62 => ?_
   refine tx_fz' (frz_row 2 [(12, (Vl (Vs g12)), (Sl Kf r12)), (4, (Vl (Vs g12)), (Sl Kf r12)), (57, (Vl (Vs g12)), (Sl Kf r12))] (K := Kf) (xs := r12) (by decide) rfl ⟨⟨rfl, frz_it⟩, ⟨rfl, frz_it⟩, ⟨rfl, frz_it⟩, trivial⟩ (H' := [⟨.slice (some q62) 1 1, [(Vl (.func (.func 90) #[] ⟨[.pointer (some q61)]⟩))], 101, some 1⟩, ⟨.pointer (some q61), [Vn], 23, none⟩, ⟨.pointer (some q1), [(Vi a0_0), (Vi a0_1), (Vi a0_2), (Sl Kf a0_3), (Sl (Ki .i64) a0_4), (Sl (Kl (Ki .i64)) a0_5), (Sl KT27 a0_6)], 27, none⟩]) frzH_refl) ?_
   obtain ⟨r63, hr63, hp⟩ := bind_some hp
   refine px_oxb' (is := [0, 1]) rfl (oxb_callg (ent_fn' Try.func68 isn68 rfl rfl) (gogeom_NewMultiPointFlat_sim _ _ hr63 : Sx.Fn Try.prog 68 [(Vi a0_1), (Sl Kf r12), (Vl (.slice (some q62) 1 1))] [⟨.slice (some q62) 1 1, [(Vl (.func (.func 90) #[] ⟨[.pointer (some q61)]⟩))], 101, some 1⟩, ⟨.pointer (some q61), [Vn], 23, none⟩] (fun x : Addr × Gs => (Vp x.1)) (fun x => [⟨.pointer (some q61), [Vn], 23, none⟩, ⟨.pointer (some x.1), [(Vi r63.1), (Vi r63.2.1), (Sl Kf r63.2.2.1), (Vi r63.2.2.2.1), (Vl (Vs x.2))], 136, none⟩, (Rw (Ki .i64) 3 (Vs x.2) r63.2.2.2.2)])) [0, 1] [2] (by decide) (pick_cons rfl (pick_cons rfl pick_nil)) (pick_cons rfl pick_nil) (Hn := fun x : Addr × Gs => [⟨.pointer (some q61), [Vn], 23, none⟩, ⟨.pointer (some x.1), [(Vi r63.1), (Vi r63.2.1), (Sl Kf r63.2.2.1), (Vi r63.2.2.2.1), (Vl (Vs x.2))], 136, none⟩, (Rw (Ki .i64) 3 (Vs x.2) r63.2.2.2.2), ⟨.pointer (some q1), [(Vi a0_0), (Vi a0_1), (Vi a0_2), (Sl Kf a0_3), (Sl (Ki .i64) a0_4), (Sl (Kl (Ki .i64)) a0_5), (Sl KT27 a0_6)], 27, none⟩]) (fun _ => rfl) rfl rfl) (pick_cons rfl (pick_cons rfl pick_nil)) rfl (bl_cons (m := 2) (by decide) rfl rfl bl_nil) (wt_none' rfl) fun ⟨q63, g63⟩ => ?_
   obtain ⟨r66, hr66, hp⟩ := bind_some hp
   refine px_oxb' (is := [1, 2]) rfl (oxb_callg (ent_fn' Try.func70 isn70 rfl rfl) (gogeom_MultiPoint_SetSRID_sim _ _ _ _ _ _ hr66 : Sx.Fn Try.prog 70 [(Vp q63), (Vi a0_2)] [⟨.pointer (some q63), [(Vi r63.1), (Vi r63.2.1), (Sl Kf r63.2.2.1), (Vi r63.2.2.2.1), (Vl (Vs g63))], 136, none⟩, (Rw (Ki .i64) 3 (Vs g63) r63.2.2.2.2)] (fun x : Unit => (Vp q63)) (fun x => [⟨.pointer (some q63), [(Vi r66.1), (Vi r66.2.1), (Sl Kf r66.2.2.1), (Vi r66.2.2.2.1), (Vl (Vs g63))], 136, none⟩, (Rw (Ki .i64) 3 (Vs g63) r66.2.2.2.2)])) [1, 2] [0, 3] (by decide) (pick_cons rfl (pick_cons rfl pick_nil)) (pick_cons rfl (pick_cons rfl pick_nil)) (Hn := fun x : Unit => [⟨.pointer (some q63), [(Vi r66.1), (Vi r66.2.1), (Sl Kf r66.2.2.1), (Vi r66.2.2.2.1), (Vl (Vs g63))], 136, none⟩, (Rw (Ki .i64) 3 (Vs g63) r66.2.2.2.2), ⟨.pointer (some q61), [Vn], 23, none⟩, ⟨.pointer (some q1), [(Vi a0_0), (Vi a0_1), (Vi a0_2), (Sl Kf a0_3), (Sl (Ki .i64) a0_4), (Sl (Kl (Ki .i64)) a0_5), (Sl KT27 a0_6)], 27, none⟩]) (fun _ => rfl) rfl rfl) (pick_cons rfl (pick_cons rfl pick_nil)) rfl (bl_cons (m := 3) (by decide) rfl rfl bl_nil) (wt_none' rfl) fun ⟨⟩ => ?_
   refine px_rd' rfl (rd_iface' rfl ⟨_, Try.underlying70, fun _ h => (nomatch h)⟩) rfl rfl (wt_none' rfl) ?_
   refine px_rd' rfl (rd_assign' rfl) rfl rfl (wt_none' rfl) ?_
   refine px_nil' ?_
   show TX E K14 _
   refine tx_k' hK14 ?_
   refine cx_retc' ?_
   refine tx_fz' (frz_row 1 [] (K := (Ki .i64)) (xs := r66.2.2.2.2) (by decide) rfl trivial (H' := [⟨.pointer (some q63), [(Vi r66.1), (Vi r66.2.1), (Sl Kf r66.2.2.1), (Vi r66.2.2.2.1), (Sl (Ki .i64) r66.2.2.2.2)], 136, none⟩, ⟨.pointer (some q61), [Vn], 23, none⟩, ⟨.pointer (some q1), [(Vi a0_0), (Vi a0_1), (Vi a0_2), (Sl Kf a0_3), (Sl (Ki .i64) a0_4), (Sl (Kl (Ki .i64)) a0_5), (Sl KT27 a0_6)], 27, none⟩]) (frzH_cons rfl rfl rfl (frzL_cons frz_same (frzL_cons frz_same (frzL_cons frz_same (frzL_cons frz_same (frzL_cons frz_it frzL_refl))))) (frzH_cons rfl rfl rfl frzL_refl (frzH_cons rfl rfl rfl frzL_refl frzH_refl)))) ?_
   replace hp := Option.some.inj hp
   subst hp
   refine tx_pick' (L' := [(2, (If 70 (Vp q63)))]) (H' := [⟨.pointer (some q63), [(Vi r66.1), (Vi r66.2.1), (Sl Kf r66.2.2.1), (Vi r66.2.2.2.1), (Sl (Ki .i64) r66.2.2.2.2)], 136, none⟩]) [0] (sub_cons rfl sub_nil) (by decide) (pick_cons rfl pick_nil) ?_
   exact tx_ret1' Try.results30 rfl q63 (rv_tmp' rfl) (List.Sublist.refl _)
  dsimp only at hp
  refine px_ox' rfl (ox_calln' (ent_fn' Try.func58 isn58 rfl rfl) (impl_ints_sim _ hr60 : Sx.Fn Try.prog 58 [(Sl (Ki .i64) a0_4)] [] (fun x : Unit => (Sl (Ki .i64) y7)) (fun x => [])) (Hn := fun x : Unit => [(Rw Kf 32 (Vs g12) r12), ⟨.pointer (some q1), [(Vi a0_0), (Vi a0_1), (Vi a0_2), (Sl Kf a0_3), (Sl (Ki .i64) a0_4), (Sl (Kl (Ki .i64)) a0_5), (Sl KT27 a0_6)], 27, none⟩]) (fun _ => rfl) rfl rfl) rfl (bs_cons (m := 1) rfl rfl rfl bs_nil) (wt_none' rfl) fun ⟨⟩ => ?_
  obtain ⟨r61, hr61, hp⟩ := bind_some hp
  refine px_ox' rfl (ox_calln' (ent_fn' Try.func69 isn69 rfl rfl) (gogeom_NewMultiPointFlatOptionWithEnds_v2_sim _ hr61 : Sx.Fn Try.prog 69 [(Sl (Ki .i64) y7)] [] (fun x : Addr => (Vl (.func (.func 90) #[] ⟨[.pointer (some x)]⟩))) (fun x => [⟨.pointer (some x), [(Sl (Ki .i64) r61)], 23, none⟩])) (Hn := fun x : Addr => [⟨.pointer (some x), [(Sl (Ki .i64) r61)], 23, none⟩, (Rw Kf 32 (Vs g12) r12), ⟨.pointer (some q1), [(Vi a0_0), (Vi a0_1), (Vi a0_2), (Sl Kf a0_3), (Sl (Ki .i64) a0_4), (Sl (Kl (Ki .i64)) a0_5), (Sl KT27 a0_6)], 27, none⟩]) (fun _ => rfl) rfl rfl) rfl (bs_cons (m := 1) rfl rfl rfl bs_nil) (wt_none' rfl) fun q61 => ?_
  refine px_ox' rfl (ox_srow' (es := 1) (r := [(Vl (.func (.func 90) #[] ⟨[.pointer (some q61)]⟩))]) (qs := [(0, [(Vl (.func (.func 90) #[] ⟨[.pointer (some q61)]⟩))])]) ⟨rfl, ⟨_, rfl, (lv_vl rfl rfl)⟩, trivial⟩ Try.underlying153 info101 rfl rfl rfl rfl rfl rfl rfl rfl rfl) rfl (bs_cons (m := 2) rfl rfl rfl bs_nil) (wt_none' rfl) fun q62 => ?_
  refine tx_fz' (frz_row 2 [(12, (Vl (Vs g12)), (Sl Kf r12)), (4, (Vl (Vs g12)), (Sl Kf r12)), (57, (Vl (Vs g12)), (Sl Kf r12))] (K := Kf) (xs := r12) (by decide) rfl ⟨⟨rfl, frz_it⟩, ⟨rfl, frz_it⟩, ⟨rfl, frz_it⟩, trivial⟩ (H' := [⟨.slice (some q62) 1 1, [(Vl (.func (.func 90) #[] ⟨[.pointer (some q61)]⟩))], 101, some 1⟩, ⟨.pointer (some q61), [(Sl (Ki .i64) r61)], 23, none⟩, ⟨.pointer (some q1), [(Vi a0_0), (Vi a0_1), (Vi a0_2), (Sl Kf a0_3), (Sl (Ki .i64) a0_4), (Sl (Kl (Ki .i64)) a0_5), (Sl KT27 a0_6)], 27, none⟩]) frzH_refl) ?_
  obtain ⟨r63, hr63, hp⟩ := bind_some hp
  refine px_oxb' (is := [0, 1]) rfl (oxb_callg (ent_fn' Try.func68 isn68 rfl rfl) (gogeom_NewMultiPointFlat_v2_sim _ _ _ hr63 : Sx.Fn Try.prog 68 [(Vi a0_1), (Sl Kf r12), (Vl (.slice (some q62) 1 1))] [⟨.slice (some q62) 1 1, [(Vl (.func (.func 90) #[] ⟨[.pointer (some q61)]⟩))], 101, some 1⟩, ⟨.pointer (some q61), [(Sl (Ki .i64) r61)], 23, none⟩] (fun x : Addr => (Vp x)) (fun x => [⟨.pointer (some q61), [(Sl (Ki .i64) r63.1)], 23, none⟩, ⟨.pointer (some x), [(Vi r63.2.1), (Vi r63.2.2.1), (Sl Kf r63.2.2.2.1), (Vi r63.2.2.2.2), (Sl (Ki .i64) r63.1)], 136, none⟩])) [0, 1] [2] (by decide) (pick_cons rfl (pick_cons rfl pick_nil)) (pick_cons rfl pick_nil) (Hn := fun x : Addr => [⟨.pointer (some q61), [(Sl (Ki .i64) r63.1)], 23, none⟩, ⟨.pointer (some x), [(Vi r63.2.1), (Vi r63.2.2.1), (Sl Kf r63.2.2.2.1), (Vi r63.2.2.2.2), (Sl (Ki .i64) r63.1)], 136, none⟩, ⟨.pointer (some q1), [(Vi a0_0), (Vi a0_1), (Vi a0_2), (Sl Kf a0_3), (Sl (Ki .i64) a0_4), (Sl (Kl (Ki .i64)) a0_5), (Sl KT27 a0_6)], 27, none⟩]) (fun _ => rfl) rfl rfl) (pick_cons rfl (pick_cons rfl pick_nil)) rfl (bl_cons (m := 2) (by decide) rfl rfl bl_nil) (wt_none' rfl) fun q63 => ?_
  obtain ⟨r66, hr66, hp⟩ := bind_some hp
  refine px_oxb' (is := [1]) rfl (oxb_callg (ent_fn' Try.func70 isn70 rfl rfl) (gogeom_MultiPoint_SetSRID_v2_sim _ _ _ _ _ _ hr66 : Sx.Fn Try.prog 70 [(Vp q63), (Vi a0_2)] [⟨.pointer (some q63), [(Vi r63.2.1), (Vi r63.2.2.1), (Sl Kf r63.2.2.2.1), (Vi r63.2.2.2.2), (Sl (Ki .i64) r63.1)], 136, none⟩] (fun x : Unit => (Vp q63)) (fun x => [⟨.pointer (some q63), [(Vi r66.1), (Vi r66.2.1), (Sl Kf r66.2.2.1), (Vi r66.2.2.2.1), (Sl (Ki .i64) r66.2.2.2.2)], 136, none⟩])) [1] [0, 2] (by decide) (pick_cons rfl pick_nil) (pick_cons rfl (pick_cons rfl pick_nil)) (Hn := fun x : Unit => [⟨.pointer (some q63), [(Vi r66.1), (Vi r66.2.1), (Sl Kf r66.2.2.1), (Vi r66.2.2.2.1), (Sl (Ki .i64) r66.2.2.2.2)], 136, none⟩, ⟨.pointer (some q61), [(Sl (Ki .i64) r63.1)], 23, none⟩, ⟨.pointer (some q1), [(Vi a0_0), (Vi a0_1), (Vi a0_2), (Sl Kf a0_3), (Sl (Ki .i64) a0_4), (Sl (Kl (Ki .i64)) a0_5), (Sl KT27 a0_6)], 27, none⟩]) (fun _ => rfl) rfl rfl) (pick_cons rfl pick_nil) rfl (bl_cons (m := 2) (by decide) rfl rfl bl_nil) (wt_none' rfl) fun ⟨⟩ => ?_
  refine px_rd' rfl (rd_iface' rfl ⟨_, Try.underlying70, fun _ h => (nomatch h)⟩) rfl rfl (wt_none' rfl) ?_
  refine px_rd' rfl (rd_assign' rfl) rfl rfl (wt_none' rfl) ?_
  refine px_nil' ?_
  show TX E K14 _
  refine tx_k' hK14 ?_
  refine cx_retc' ?_
  replace hp := Option.some.inj hp
  subst hp
  refine tx_pick' (L' := [(2, (If 70 (Vp q63)))]) (H' := [⟨.pointer (some q63), [(Vi r66.1), (Vi r66.2.1), (Sl Kf r66.2.2.1), (Vi r66.2.2.2.1), (Sl (Ki .i64) r66.2.2.2.2)], 136, none⟩]) [0] (sub_cons rfl sub_nil) (by decide) (pick_cons rfl pick_nil) ?_
  exact tx_ret1' Try.results30 rfl q63 (rv_tmp' rfl) (List.Sublist.refl _)
 replace hp := (br_f h5).symm.trans hp
 refine cr fun K15 hK15 => ?_
 refine s0 (rd_bin' rfl rfl eg_int ru_eql) ?_
 refine s0 (rd_assign' rfl) ?_
 refine nk hK15 ?_
 refine cx_cond' rfl (fun h6 => ?_) (fun h6 => ?_)
 ·replace hp := (br_t h6).symm.trans hp
  refine cx_seq' fun K16 hK16 => ?_
  refine cx_plan' [] [(8, 1)] [(0, 1), (1, 1), (2, 1), (3, 1), (6, 1), (7, 1), (4, 0), (5, 0), (8, 0), (9, 1), (10, 1)] mixed (by kernel_rfl) ?_
  refine px_rd' rfl (rd_move' rfl) rfl rfl (wt_none' rfl) ?_
  refine px_rd' rfl (rd_move' rfl) rfl rfl (wt_none' rfl) ?_
  refine px_rd' rfl (rd_field' (off := 4) rfl Try.underlying27 rfl info23 rfl) rfl rfl (wt_none' rfl) ?_
  refine px_rd' rfl (rd_load' (i := 1) (o := 4) rfl ⟨rfl, rfl, rfl, rfl⟩ rfl flat23) rfl rfl (wt_none' rfl) ?_
  refine px_rd' rfl (rd_field' (off := 2) rfl Try.underlying27 rfl info3 rfl) rfl rfl (wt_none' rfl) ?_
  refine px_rd' rfl (rd_load' (i := 1) (o := 2) rfl ⟨rfl, rfl, rfl, rfl⟩ rfl flat3) rfl rfl (wt_none' rfl) ?_
  obtain ⟨r74, hr74, hp⟩ := bind_some hp
  rcases r74 with y11 | y11
  ·dsimp only at hp
   refine px_ox' rfl (ox_calln' (ent_fn' Try.func58 isn58 rfl rfl) (impl_ints_sim _ hr74 : Sx.Fn Try.prog 58 [(Sl (Ki .i64) a0_4)] [] (fun x : Unit => Vn) (fun x => [])) (Hn := fun x : Unit => [(Rw Kf 32 (Vs g12) r12), ⟨.pointer (some q1), [(Vi a0_0), (Vi a0_1), (Vi a0_2), (Sl Kf a0_3), (Sl (Ki .i64) a0_4), (Sl (Kl (Ki .i64)) a0_5), (Sl KT27 a0_6)], 27, none⟩]) (fun _ => rfl) rfl rfl) rfl bs_nil (wt_none' rfl) fun ⟨⟩ => ?_
   refine tx_fz' (frz_row 0 [(12, (Vl (Vs g12)), (Sl Kf r12)), (4, (Vl (Vs g12)), (Sl Kf r12)), (71, (Vl (Vs g12)), (Sl Kf r12))] (K := Kf) (xs := r12) (by decide) rfl ⟨⟨rfl, frz_it⟩, ⟨rfl, frz_it⟩, ⟨rfl, frz_it⟩, trivial⟩ (H' := [⟨.pointer (some q1), [(Vi a0_0), (Vi a0_1), (Vi a0_2), (Sl Kf a0_3), (Sl (Ki .i64) a0_4), (Sl (Kl (Ki .i64)) a0_5), (Sl KT27 a0_6)], 27, none⟩]) frzH_refl) ?_
   obtain ⟨r75, hr75, hp⟩ := bind_some hp
   refine px_ox' rfl (ox_calln' (ent_fn' Try.func71 isn71 rfl rfl) (gogeom_NewMultiLineStringFlat_sim _ _ hr75 : Sx.Fn Try.prog 71 [(Vi a0_1), (Sl Kf r12), Vn] [] (fun x : Addr => (Vp x)) (fun x => [⟨.pointer (some x), [(Vi r75.1), (Vi r75.2.1), (Sl Kf r75.2.2.1), (Vi r75.2.2.2), Vn], 139, none⟩])) (Hn := fun x : Addr => [⟨.pointer (some x), [(Vi r75.1), (Vi r75.2.1), (Sl Kf r75.2.2.1), (Vi r75.2.2.2), Vn], 139, none⟩, ⟨.pointer (some q1), [(Vi a0_0), (Vi a0_1), (Vi a0_2), (Sl Kf a0_3), (Sl (Ki .i64) a0_4), (Sl (Kl (Ki .i64)) a0_5), (Sl KT27 a0_6)], 27, none⟩]) (fun _ => rfl) rfl rfl) rfl bs_nil (wt_none' rfl) fun q75 => ?_
   obtain ⟨r78, hr78, hp⟩ := bind_some hp
   refine px_oxb' (is := [0]) rfl (oxb_callg (ent_fn' Try.func72 isn72 rfl rfl) (gogeom_MultiLineString_SetSRID_sim _ _ _ _ _ hr78 : Sx.Fn Try.prog 72 [(Vp q75), (Vi a0_2)] [⟨.pointer (some q75), [(Vi r75.1), (Vi r75.2.1), (Sl Kf r75.2.2.1), (Vi r75.2.2.2), Vn], 139, none⟩] (fun x : Unit => (Vp q75)) (fun x => [⟨.pointer (some q75), [(Vi r78.1), (Vi r78.2.1), (Sl Kf r78.2.2.1), (Vi r78.2.2.2), Vn], 139, none⟩])) [0] [1] (by decide) (pick_cons rfl pick_nil) (pick_cons rfl pick_nil) (Hn := fun x : Unit => [⟨.pointer (some q75), [(Vi r78.1), (Vi r78.2.1), (Sl Kf r78.2.2.1), (Vi r78.2.2.2), Vn], 139, none⟩, ⟨.pointer (some q1), [(Vi a0_0), (Vi a0_1), (Vi a0_2), (Sl Kf a0_3), (Sl (Ki .i64) a0_4), (Sl (Kl (Ki .i64)) a0_5), (Sl KT27 a0_6)], 27, none⟩]) (fun _ => rfl) rfl rfl) (pick_cons rfl pick_nil) rfl bl_nil (wt_none' rfl) fun ⟨⟩ => ?_
   refine px_rd' rfl (rd_iface' rfl ⟨_, Try.underlying73, fun _ h => (nomatch h)⟩) rfl rfl (wt_none' rfl) ?_
   refine px_rd' rfl (rd_assign' rfl) rfl rfl (wt_none' rfl) ?_
   refine px_nil' ?_
   show TX E K16 _
   refine tx_k' hK16 ?_
   refine cx_retc' ?_
   replace hp := Option.some.inj hp
   subst hp
   refine tx_cell' 0 4 (y := (Sl (Ki .i64) [])) rfl rfl imp_nil (H' := [⟨.pointer (some q75), [(Vi r78.1), (Vi r78.2.1), (Sl Kf r78.2.2.1), (Vi r78.2.2.2), (Sl (Ki .i64) [])], 139, none⟩, ⟨.pointer (some q1), [(Vi a0_0), (Vi a0_1), (Vi a0_2), (Sl Kf a0_3), (Sl (Ki .i64) a0_4), (Sl (Kl (Ki .i64)) a0_5), (Sl KT27 a0_6)], 27, none⟩]) rfl ?_
   refine tx_pick' (L' := [(2, (If 73 (Vp q75)))]) (H' := [⟨.pointer (some q75), [(Vi r78.1), (Vi r78.2.1), (Sl Kf r78.2.2.1), (Vi r78.2.2.2), (Sl (Ki .i64) [])], 139, none⟩]) [0] (sub_cons rfl sub_nil) (by decide) (pick_cons rfl pick_nil) ?_
   exact tx_ret1' Try.results30 rfl q75 (rv_tmp' rfl) (List.Sublist.refl _)
  dsimp only at hp
  refine px_ox' rfl (ox_calln' (ent_fn' Try.func58 isn58 rfl rfl) (impl_ints_sim _ hr74 : Sx.Fn Try.prog 58 [(Sl (Ki .i64) a0_4)] [] (fun x : Unit => (Sl (Ki .i64) y11)) (fun x => [])) (Hn := fun x : Unit => [(Rw Kf 32 (Vs g12) r12), ⟨.pointer (some q1), [(Vi a0_0), (Vi a0_1), (Vi a0_2), (Sl Kf a0_3), (Sl (Ki .i64) a0_4), (Sl (Kl (Ki .i64)) a0_5), (Sl KT27 a0_6)], 27, none⟩]) (fun _ => rfl) rfl rfl) rfl bs_nil (wt_none' rfl) fun ⟨⟩ => ?_
  refine tx_fz' (frz_row 0 [(12, (Vl (Vs g12)), (Sl Kf r12)), (4, (Vl (Vs g12)), (Sl Kf r12)), (71, (Vl (Vs g12)), (Sl Kf r12))] (K := Kf) (xs := r12) (by decide) rfl ⟨⟨rfl, frz_it⟩, ⟨rfl, frz_it⟩, ⟨rfl, frz_it⟩, trivial⟩ (H' := [⟨.pointer (some q1), [(Vi a0_0), (Vi a0_1), (Vi a0_2), (Sl Kf a0_3), (Sl (Ki .i64) a0_4), (Sl (Kl (Ki .i64)) a0_5), (Sl KT27 a0_6)], 27, none⟩]) frzH_refl) ?_
  obtain ⟨r75, hr75, hp⟩ := bind_some hp
  refine px_ox' rfl (ox_calln' (ent_fn' Try.func71 isn71 rfl rfl) (gogeom_NewMultiLineStringFlat_v2_sim _ _ _ hr75 : Sx.Fn Try.prog 71 [(Vi a0_1), (Sl Kf r12), (Sl (Ki .i64) y11)] [] (fun x : Addr => (Vp x)) (fun x => [⟨.pointer (some x), [(Vi r75.1), (Vi r75.2.1), (Sl Kf r75.2.2.1), (Vi r75.2.2.2.1), (Sl (Ki .i64) r75.2.2.2.2)], 139, none⟩])) (Hn := fun x : Addr => [⟨.pointer (some x), [(Vi r75.1), (Vi r75.2.1), (Sl Kf r75.2.2.1), (Vi r75.2.2.2.1), (Sl (Ki .i64) r75.2.2.2.2)], 139, none⟩, ⟨.pointer (some q1), [(Vi a0_0), (Vi a0_1), (Vi a0_2), (Sl Kf a0_3), (Sl (Ki .i64) a0_4), (Sl (Kl (Ki .i64)) a0_5), (Sl KT27 a0_6)], 27, none⟩]) (fun _ => rfl) rfl rfl) rfl bs_nil (wt_none' rfl) fun q75 => ?_
  obtain ⟨r78, hr78, hp⟩ := bind_some hp
  refine px_oxb' (is := [0]) rfl (oxb_callg (ent_fn' Try.func72 isn72 rfl rfl) (gogeom_MultiLineString_SetSRID_v2_sim _ _ _ _ _ _ hr78 : Sx.Fn Try.prog 72 [(Vp q75), (Vi a0_2)] [⟨.pointer (some q75), [(Vi r75.1), (Vi r75.2.1), (Sl Kf r75.2.2.1), (Vi r75.2.2.2.1), (Sl (Ki .i64) r75.2.2.2.2)], 139, none⟩] (fun x : Unit => (Vp q75)) (fun x => [⟨.pointer (some q75), [(Vi r78.1), (Vi r78.2.1), (Sl Kf r78.2.2.1), (Vi r78.2.2.2.1), (Sl (Ki .i64) r78.2.2.2.2)], 139, none⟩])) [0] [1] (by decide) (pick_cons rfl pick_nil) (pick_cons rfl pick_nil) (Hn := fun x : Unit => [⟨.pointer (some q75), [(Vi r78.1), (Vi r78.2.1), (Sl Kf r78.2.2.1), (Vi r78.2.2.2.1), (Sl (Ki .i64) r78.2.2.2.2)], 139, none⟩, ⟨.pointer (some q1), [(Vi a0_0), (Vi a0_1), (Vi a0_2), (Sl Kf a0_3), (Sl (Ki .i64) a0_4), (Sl (Kl (Ki .i64)) a0_5), (Sl KT27 a0_6)], 27, none⟩]) (fun _ => rfl) rfl rfl) (pick_cons rfl pick_nil) rfl bl_nil (wt_none' rfl) fun ⟨⟩ => ?_
  refine px_rd' rfl (rd_iface' rfl ⟨_, Try.underlying73, fun _ h => (nomatch h)⟩) rfl rfl (wt_none' rfl) ?_
  refine px_rd' rfl (rd_assign' rfl) rfl rfl (wt_none' rfl) ?_
  refine px_nil' ?_
  show TX E K16 _
  refine tx_k' hK16 ?_
  refine cx_retc' ?_
  replace hp := Option.some.inj hp
  subst hp
  refine tx_pick' (L' := [(2, (If 73 (Vp q75)))]) (H' := [⟨.pointer (some q75), [(Vi r78.1), (Vi r78.2.1), (Sl Kf r78.2.2.1), (Vi r78.2.2.2.1), (Sl (Ki .i64) r78.2.2.2.2)], 139, none⟩]) [0] (sub_cons rfl sub_nil) (by decide) (pick_cons rfl pick_nil) ?_
  exact tx_ret1' Try.results30 rfl q75 (rv_tmp' rfl) (List.Sublist.refl _)
 replace hp := (br_f h6).symm.trans hp
 refine cr fun K17 hK17 => ?_
 refine s0 (rd_bin' rfl rfl eg_int ru_eql) ?_
 refine s0 (rd_assign' rfl) ?_
 refine nk hK17 ?_
 refine cx_cond' rfl (fun h7 => ?_) (fun h7 => ?_)
 ·replace hp := (br_t h7).symm.trans hp
  refine cx_seq' fun K18 hK18 => ?_
  refine cx_plan' [] [(8, 1)] [(0, 1), (1, 1), (2, 1), (3, 1), (6, 1), (7, 1), (4, 0), (5, 0), (8, 0), (9, 1), (10, 1)] mixed (by kernel_rfl) ?_
  refine px_rd' rfl (rd_move' rfl) rfl rfl (wt_none' rfl) ?_
  refine px_rd' rfl (rd_move' rfl) rfl rfl (wt_none' rfl) ?_
  refine px_rd' rfl (rd_field' (off := 5) rfl Try.underlying27 rfl info24 rfl) rfl rfl (wt_none' rfl) ?_
  refine px_rd' rfl (rd_load' (i := 1) (o := 5) rfl ⟨rfl, rfl, rfl, rfl⟩ rfl flat24) rfl rfl (wt_none' rfl) ?_
  refine px_rd' rfl (rd_field' (off := 2) rfl Try.underlying27 rfl info3 rfl) rfl rfl (wt_none' rfl) ?_
  refine px_rd' rfl (rd_load' (i := 1) (o := 2) rfl ⟨rfl, rfl, rfl, rfl⟩ rfl flat3) rfl rfl (wt_none' rfl) ?_
  obtain ⟨r86, hr86, hp⟩ := bind_some hp
  refine px_ox' rfl (ox_calln' (ent_fn' Try.func29 isn29 rfl rfl) (impl_intss_sim _ hr86 : Sx.Fn Try.prog 29 [(Sl (Kl (Ki .i64)) a0_5)] [] (fun x : Unit => (Sl (Kl (Ki .i64)) r86)) (fun x => [])) (Hn := fun x : Unit => [(Rw Kf 32 (Vs g12) r12), ⟨.pointer (some q1), [(Vi a0_0), (Vi a0_1), (Vi a0_2), (Sl Kf a0_3), (Sl (Ki .i64) a0_4), (Sl (Kl (Ki .i64)) a0_5), (Sl KT27 a0_6)], 27, none⟩]) (fun _ => rfl) rfl rfl) rfl bs_nil (wt_none' rfl) fun ⟨⟩ => ?_
  refine tx_fz' (frz_row 0 [(12, (Vl (Vs g12)), (Sl Kf r12)), (4, (Vl (Vs g12)), (Sl Kf r12)), (83, (Vl (Vs g12)), (Sl Kf r12))] (K := Kf) (xs := r12) (by decide) rfl ⟨⟨rfl, frz_it⟩, ⟨rfl, frz_it⟩, ⟨rfl, frz_it⟩, trivial⟩ (H' := [⟨.pointer (some q1), [(Vi a0_0), (Vi a0_1), (Vi a0_2), (Sl Kf a0_3), (Sl (Ki .i64) a0_4), (Sl (Kl (Ki .i64)) a0_5), (Sl KT27 a0_6)], 27, none⟩]) frzH_refl) ?_
  obtain ⟨r87, hr87, hp⟩ := bind_some hp
  refine px_ox' rfl (ox_calln' (ent_fn' Try.func73 isn73 rfl rfl) (gogeom_NewMultiPolygonFlat_sim _ _ _ hr87 : Sx.Fn Try.prog 73 [(Vi a0_1), (Sl Kf r12), (Sl (Kl (Ki .i64)) r86)] [] (fun x : Addr => (Vp x)) (fun x => [⟨.pointer (some x), [(Vi r87.1), (Vi r87.2.1), (Sl Kf r87.2.2.1), (Vi r87.2.2.2.1), (Sl (Kl (Ki .i64)) r87.2.2.2.2)], 143, none⟩])) (Hn := fun x : Addr => [⟨.pointer (some x), [(Vi r87.1), (Vi r87.2.1), (Sl Kf r87.2.2.1), (Vi r87.2.2.2.1), (Sl (Kl (Ki .i64)) r87.2.2.2.2)], 143, none⟩, ⟨.pointer (some q1), [(Vi a0_0), (Vi a0_1), (Vi a0_2), (Sl Kf a0_3), (Sl (Ki .i64) a0_4), (Sl (Kl (Ki .i64)) a0_5), (Sl KT27 a0_6)], 27, none⟩]) (fun _ => rfl) rfl rfl) rfl bs_nil (wt_none' rfl) fun q87 => ?_
  obtain ⟨r90, hr90, hp⟩ := bind_some hp
  refine px_oxb' (is := [0]) rfl (oxb_callg (ent_fn' Try.func74 isn74 rfl rfl) (gogeom_MultiPolygon_SetSRID_sim _ _ _ _ _ _ hr90 : Sx.Fn Try.prog 74 [(Vp q87), (Vi a0_2)] [⟨.pointer (some q87), [(Vi r87.1), (Vi r87.2.1), (Sl Kf r87.2.2.1), (Vi r87.2.2.2.1), (Sl (Kl (Ki .i64)) r87.2.2.2.2)], 143, none⟩] (fun x : Unit => (Vp q87)) (fun x => [⟨.pointer (some q87), [(Vi r90.1), (Vi r90.2.1), (Sl Kf r90.2.2.1), (Vi r90.2.2.2.1), (Sl (Kl (Ki .i64)) r90.2.2.2.2)], 143, none⟩])) [0] [1] (by decide) (pick_cons rfl pick_nil) (pick_cons rfl pick_nil) (Hn := fun x : Unit => [⟨.pointer (some q87), [(Vi r90.1), (Vi r90.2.1), (Sl Kf r90.2.2.1), (Vi r90.2.2.2.1), (Sl (Kl (Ki .i64)) r90.2.2.2.2)], 143, none⟩, ⟨.pointer (some q1), [(Vi a0_0), (Vi a0_1), (Vi a0_2), (Sl Kf a0_3), (Sl (Ki .i64) a0_4), (Sl (Kl (Ki .i64)) a0_5), (Sl KT27 a0_6)], 27, none⟩]) (fun _ => rfl) rfl rfl) (pick_cons rfl pick_nil) rfl bl_nil (wt_none' rfl) fun ⟨⟩ => ?_
  refine px_rd' rfl (rd_iface' rfl ⟨_, Try.underlying76, fun _ h => (nomatch h)⟩) rfl rfl (wt_none' rfl) ?_
  refine px_rd' rfl (rd_assign' rfl) rfl rfl (wt_none' rfl) ?_
  refine px_nil' ?_
  show TX E K18 _
  refine tx_k' hK18 ?_
  refine cx_retc' ?_
  replace hp := Option.some.inj hp
  subst hp
  refine tx_pick' (L' := [(2, (If 76 (Vp q87)))]) (H' := [⟨.pointer (some q87), [(Vi r90.1), (Vi r90.2.1), (Sl Kf r90.2.2.1), (Vi r90.2.2.2.1), (Sl (Kl (Ki .i64)) r90.2.2.2.2)], 143, none⟩]) [0] (sub_cons rfl sub_nil) (by decide) (pick_cons rfl pick_nil) ?_
  exact tx_ret1' Try.results30 rfl q87 (rv_tmp' rfl) (List.Sublist.refl _)
 replace hp := (br_f h7).symm.trans hp
 refine cr fun K19 hK19 => ?_
 refine s0 (rd_bin' rfl rfl eg_int ru_eql) ?_
 refine s0 (rd_assign' rfl) ?_
 refine nk hK19 ?_
 refine cx_cond' rfl (fun h8 => ?_) (fun h8 => ?_)
 ·replace hp := (br_t h8).symm.trans hp
  refine cx_seq' fun K20 hK20 => ?_
  refine cx_plan' [] [(3, 1)] [(1, 1), (2, 1), (0, 0), (3, 0), (4, 1)] mixed (by kernel_rfl) ?_
  refine px_rd' rfl (rd_field' (off := 2) rfl Try.underlying27 rfl info3 rfl) rfl rfl (wt_none' rfl) ?_
  refine px_rd' rfl (rd_load' (i := 1) (o := 2) rfl ⟨rfl, rfl, rfl, rfl⟩ rfl flat3) rfl rfl (wt_none' rfl) ?_
  obtain ⟨r94, hr94, hp⟩ := bind_some hp
  refine px_ox' rfl (ox_calln' (ent_fn' Try.func75 isn75 rfl rfl) (gogeom_NewGeometryCollection_sim hr94 : Sx.Fn Try.prog 75 [] [] (fun x : Addr => (Vp x)) (fun x => [⟨.pointer (some x), [(Vi r94), Vn, (Vi r94)], 114, none⟩])) (Hn := fun x : Addr => [⟨.pointer (some x), [(Vi r94), Vn, (Vi r94)], 114, none⟩, (Rw Kf 32 (Vs g12) r12), ⟨.pointer (some q1), [(Vi a0_0), (Vi a0_1), (Vi a0_2), (Sl Kf a0_3), (Sl (Ki .i64) a0_4), (Sl (Kl (Ki .i64)) a0_5), (Sl KT27 a0_6)], 27, none⟩]) (fun _ => rfl) rfl rfl) rfl bs_nil (wt_none' rfl) fun q94 => ?_
  obtain ⟨r97, hr97, hp⟩ := bind_some hp
  refine px_oxb' (is := [0]) rfl (oxb_callg (ent_fn' Try.func76 isn76 rfl rfl) (gogeom_GeometryCollection_SetSRID_sim _ _ _ hr97 : Sx.Fn Try.prog 76 [(Vp q94), (Vi a0_2)] [⟨.pointer (some q94), [(Vi r94), Vn, (Vi r94)], 114, none⟩] (fun x : Unit => (Vp q94)) (fun x => [⟨.pointer (some q94), [(Vi r97.1), Vn, (Vi r97.2)], 114, none⟩])) [0] [1, 2] (by decide) (pick_cons rfl pick_nil) (pick_cons rfl (pick_cons rfl pick_nil)) (Hn := fun x : Unit => [⟨.pointer (some q94), [(Vi r97.1), Vn, (Vi r97.2)], 114, none⟩, (Rw Kf 32 (Vs g12) r12), ⟨.pointer (some q1), [(Vi a0_0), (Vi a0_1), (Vi a0_2), (Sl Kf a0_3), (Sl (Ki .i64) a0_4), (Sl (Kl (Ki .i64)) a0_5), (Sl KT27 a0_6)], 27, none⟩]) (fun _ => rfl) rfl rfl) (pick_cons rfl pick_nil) rfl bl_nil (wt_none' rfl) fun ⟨⟩ => ?_
  refine px_rd' rfl (rd_assign' rfl) rfl rfl (wt_none' rfl) ?_
  refine px_nil' ?_
  show TX E K20 _
  refine tx_k' hK20 ?_
  refine cx_seq' fun K21 hK21 => ?_
  refine cr fun K22 hK22 => ?_
  refine s0 (rd_field' (off := 6) rfl Try.underlying27 rfl info25 rfl) ?_
  refine s0 (rd_load' (i := 2) (o := 6) rfl ⟨rfl, rfl, rfl, rfl⟩ rfl flat25) ?_
  refine s0 (rd_len' rfl Try.underlying25) ?_
  refine s0 (rd_move' rfl) ?_
  refine nk hK22 ?_
  refine cx_block' ?_
  refine tx_loop' ?_
  refine tx_round' ?_
  refine cr fun K23 hK23 => ?_
  refine s0 (rd_bin' rfl rfl eg_int ru_lss) ?_
  refine nk hK23 ?_
  refine cx_seq' fun K24 hK24 => ?_
  refine cx_cond' rfl (fun h9 => ?_) (fun h9 => ?_)
  ·replace hp := (br_t h9).symm.trans hp
   cases hp
  replace hp := (br_f h9).symm.trans hp
  refine cx_exit' ?_
  show TX E K21 _
  refine tx_k' hK21 ?_
  refine cr fun K27 hK27 => ?_
  refine s0 (rd_move' rfl) ?_
  refine s0 (rd_move' rfl) ?_
  obtain ⟨r113, hr113, hp⟩ := bind_some hp
  refine sx_ox' (ox_callg' (ent_fn' Try.func78 isn78 rfl rfl) (gogeom_GeometryCollection_MustSetLayout_sim _ _ _ hr113 : Sx.Fn Try.prog 78 [(Vp q94), (Vi a0_1)] [⟨.pointer (some q94), [(Vi r97.1), Vn, (Vi r97.2)], 114, none⟩] (fun x : Unit => (Vp q94)) (fun x => [⟨.pointer (some q94), [(Vi r113.1), Vn, (Vi r113.2)], 114, none⟩])) [0] [1, 2] (by decide) (pick_cons rfl pick_nil) (pick_cons rfl (pick_cons rfl pick_nil)) (Hn := fun x : Unit => [⟨.pointer (some q94), [(Vi r113.1), Vn, (Vi r113.2)], 114, none⟩, (Rw Kf 32 (Vs g12) r12), ⟨.pointer (some q1), [(Vi a0_0), (Vi a0_1), (Vi a0_2), (Sl Kf a0_3), (Sl (Ki .i64) a0_4), (Sl (Kl (Ki .i64)) a0_5), (Sl KT27 a0_6)], 27, none⟩]) (fun _ => rfl) rfl rfl) (wt_none' rfl) fun ⟨⟩ => ?_
  refine s0 (rd_iface' rfl ⟨_, Try.underlying57, fun _ h => (nomatch h)⟩) ?_
  refine s0 (rd_assign' rfl) ?_
  refine nk hK27 ?_
  refine cx_retc' ?_
  replace hp := Option.some.inj hp
  subst hp
  refine tx_pick' (L' := [(2, (If 57 (Vp q94)))]) (H' := [⟨.pointer (some q94), [(Vi r113.1), Vn, (Vi r113.2)], 114, none⟩]) [0] (sub_cons rfl sub_nil) (by decide) (pick_cons rfl pick_nil) ?_
  exact tx_ret1' Try.results30 rfl q94 (rv_tmp' rfl) (List.Sublist.refl _)
 replace hp := (br_f h8).symm.trans hp
 refine cx_skip' ?_
 show TX E K3 _
 refine tx_k' hK3 ?_
 refine cx_region' ?_
 refine s0 (rd_iface' rfl ⟨_, Try.underlying9, fun _ h => (nomatch h)⟩) ?_
 cases hp
theorem impl_geometry_simA : ∀ (k : Nat)  (a0_0 : Int) (a0_1 : Int) (a0_2 : Int) (a0_3 : List Nat) (a0_4 : List Int) (a0_5 : List (List Int)) (a0_6 : List T27) (out : (Int × Int × (List Nat) × Int) ⊕ ((Int × Int × (List Nat) × Int) ⊕ ((Int × Int × (List Nat) × Int) ⊕ ((Int × Int × (List Nat) × Int × (List Int)) ⊕ ((Int × Int × (List Nat) × Int × (List Int)) ⊕ ((Int × Int × (List Nat) × Int × (List Int)) ⊕ ((Int × Int × (List Nat) × Int × (List (List Int))) ⊕ (Int × Int)))))))), impl_geometry k a0_0 a0_1 a0_2 a0_3 a0_4 a0_5 a0_6 = some out → Sx.Fn Try.prog 30 [(Ag [(Vi a0_0), (Vi a0_1), (Vi a0_2), (Sl Kf a0_3), (Sl (Ki .i64) a0_4), (Sl (Kl (Ki .i64)) a0_5), (Sl KT27 a0_6)])] [] (fun w => impl_geometry_r a0_0 a0_1 a0_2 a0_3 a0_4 a0_5 a0_6 out w) (fun w => impl_geometry_h a0_0 a0_1 a0_2 a0_3 a0_4 a0_5 a0_6 out w) := by
 intro k
 induction k with
 | zero => intro a0_0 a0_1 a0_2 a0_3 a0_4 a0_5 a0_6 out hp; cases hp
 | succ k ih => intro a0_0 a0_1 a0_2 a0_3 a0_4 a0_5 a0_6 out hp; exact impl_geometry_b_sim ih a0_0 a0_1 a0_2 a0_3 a0_4 a0_5 a0_6 hp
theorem impl_geometry_sim {k : Nat}  (a0_0 : Int) (a0_1 : Int) (a0_2 : Int) (a0_3 : List Nat) (a0_4 : List Int) (a0_5 : List (List Int)) (a0_6 : List T27) {out : (Int × Int × (List Nat) × Int) ⊕ ((Int × Int × (List Nat) × Int) ⊕ ((Int × Int × (List Nat) × Int) ⊕ ((Int × Int × (List Nat) × Int × (List Int)) ⊕ ((Int × Int × (List Nat) × Int × (List Int)) ⊕ ((Int × Int × (List Nat) × Int × (List Int)) ⊕ ((Int × Int × (List Nat) × Int × (List (List Int))) ⊕ (Int × Int)))))))} (hp : impl_geometry k a0_0 a0_1 a0_2 a0_3 a0_4 a0_5 a0_6 = some out) : Sx.Fn Try.prog 30 [(Ag [(Vi a0_0), (Vi a0_1), (Vi a0_2), (Sl Kf a0_3), (Sl (Ki .i64) a0_4), (Sl (Kl (Ki .i64)) a0_5), (Sl KT27 a0_6)])] [] (fun w => impl_geometry_r a0_0 a0_1 a0_2 a0_3 a0_4 a0_5 a0_6 out w) (fun w => impl_geometry_h a0_0 a0_1 a0_2 a0_3 a0_4 a0_5 a0_6 out w) := impl_geometry_simA k a0_0 a0_1 a0_2 a0_3 a0_4 a0_5 a0_6 out hp

def gogeom_geom0_Layout (k : Nat) (a0_0 : Int) (a0_1 : Int) (a0_2 : List Nat) (a0_3 : Int) : Option (Int × Int × (List Nat) × Int) :=
 some (a0_0, a0_1, a0_2, a0_3)

theorem gogeom_geom0_Layout_sim {k : Nat} {wa0 : Addr} (a0_0 : Int) (a0_1 : Int) (a0_2 : List Nat) (a0_3 : Int) {out : Int × Int × (List Nat) × Int} (hp : gogeom_geom0_Layout k a0_0 a0_1 a0_2 a0_3 = some out) : Sx.Fn Try.prog 134 [(Vp wa0)] [⟨.pointer (some wa0), [(Vi a0_0), (Vi a0_1), (Sl Kf a0_2), (Vi a0_3)], 135, none⟩] (fun w : Unit => (Vi out.1)) (fun w => [⟨.pointer (some wa0), [(Vi out.1), (Vi out.2.1), (Sl Kf out.2.2.1), (Vi out.2.2.2)], 135, none⟩]) := by
 unfold gogeom_geom0_Layout at hp
 refine fn_of Try.func134 rfl Try.ntmps134 rfl fun E hM => ?_
 refine cr fun K1 hK1 => ?_
 refine s0 (rd_assign' rfl) ?_
 refine nk hK1 ?_
 refine cr fun K2 hK2 => ?_
 refine s0 (rd_move' rfl) ?_
 refine s0 (rd_nilck' rfl) ?_
 refine s0 (rd_field0' rfl Try.underlying124 rfl info61 rfl) ?_
 refine s0 (rd_load' (i := 0) (o := 0) rfl ⟨rfl, rfl, rfl, rfl⟩ rfl flat61) ?_
 refine s0 (rd_assign' rfl) ?_
 refine nk hK2 ?_
 refine cx_retc' ?_
 replace hp := Option.some.inj hp
 subst hp
 refine tx_pick' (L' := [(2, (Vi a0_0))]) (H' := [⟨.pointer (some wa0), [(Vi a0_0), (Vi a0_1), (Sl Kf a0_2), (Vi a0_3)], 135, none⟩]) [0] (sub_cons rfl sub_nil) (by decide) (pick_cons rfl pick_nil) ?_
 exact tx_ret1' Try.results134 rfl () (rv_tmp' rfl) (List.Sublist.refl _)

def math_Inf_j1 (k : Nat) (x1 : Int) : Option (Nat) :=
 some (ffrom x1)
def math_Inf (k : Nat) (a0 : Int) : Option (Nat) :=
 br (decide (0 ≤ a0))
  (math_Inf_j1 k 9218868437227405312)
  (math_Inf_j1 k 18442240474082181120)

theorem math_Inf_sim {k : Nat}  (a0 : Int) {out : Nat} (hp : math_Inf k a0 = some out) : Sx.Fn Try.prog 91 [(Vi a0)] [] (fun w : Unit => (Vg out)) (fun w => []) := by
 unfold math_Inf at hp
 refine fn_of Try.func91 rfl Try.ntmps91 rfl fun E hM => ?_
 refine cr fun K1 hK1 => ?_
 refine s0 (rd_assign' rfl) ?_
 refine nk hK1 ?_
 refine cr fun K2 hK2 => ?_
 refine s0 (rd_assign' rfl) ?_
 refine nk hK2 ?_
 refine cx_join' (fun (v1 : Int) => (⟨8, [], [(3, (Vl (.int .u64 v1)))], []⟩ : St)) (fun (v1 : Int) => math_Inf_j1 k v1 = some out) ?_ ?_
 ·rintro x1 hp
  replace hp : math_Inf_j1 k x1 = some out := hp
  unfold math_Inf_j1 at hp
  refine cr fun K5 hK5 => ?_
  refine s0 (rd_move' rfl) ?_
  refine s0 (rd_ext' (us := [.int .u64 x1]) rfl (ext95 ex_from)) ?_
  refine s0 (rd_assign' rfl) ?_
  refine nk hK5 ?_
  refine cx_retc' ?_
  replace hp := Option.some.inj hp
  subst hp
  refine tx_pick' (L' := [(2, (Vg (ffrom x1)))]) (H' := []) [] (sub_cons rfl sub_nil) (by decide) pick_nil ?_
  exact tx_ret1' Try.results91 rfl () (rv_tmp' rfl) (List.Sublist.refl _)
 intro K3 hK3
 refine cr fun K4 hK4 => ?_
 refine s0 (rd_move' rfl) ?_
 refine s0 (rd_bin' rfl rfl eg_int ru_geq) ?_
 refine nk hK4 ?_
 refine cx_cond' rfl (fun h1 => ?_) (fun h1 => ?_)
 ·replace hp := (br_t h1).symm.trans hp
  refine cx_region' ?_
  refine s0 (rd_assign' rfl) ?_
  refine sx_nil' ?_
  show TX E K3 _
  exact tx_pick' [] (sub_cons rfl sub_nil) (by decide) pick_nil (hK3 9218868437227405312 hp)
 replace hp := (br_f h1).symm.trans hp
 refine cx_region' ?_
 refine s0 (rd_assign' rfl) ?_
 refine sx_nil' ?_
 show TX E K3 _
 exact tx_pick' [] (sub_cons rfl sub_nil) (by decide) pick_nil (hK3 18442240474082181120 hp)

def gogeom_Bounds_extendStride_l1s (a1 : Int) (k : Nat) (rec1 : ((List Nat) × (List Nat) × Int) → Option ((List Nat) × (List Nat))) (x1 : List Nat) (x2 : List Nat) (x3 : Int) : Option ((List Nat) × (List Nat)) :=
 br (decide (x3 < a1))
  ((math_Inf k 1) >>= fun r20 =>
  (apd 8 x1 ([r20])) >>= fun r22 =>
  (math_Inf k (-1)) >>= fun r30 =>
  (apd 8 x2 ([r30])) >>= fun r32 =>
  rec1 (r22, r32, (iadd .i64 x3 1)))
  (some (x1, x2))
def gogeom_Bounds_extendStride_l1 (a1 : Int) : Nat → ((List Nat) × (List Nat) × Int) → Option ((List Nat) × (List Nat))
 | 0, _ => none
 | k + 1, v => gogeom_Bounds_extendStride_l1s a1 k (gogeom_Bounds_extendStride_l1 a1 k) v.1 v.2.1 v.2.2
def gogeom_Bounds_extendStride (k : Nat) (a0_0 : Int) (a0_1 : List Nat) (a0_2 : List Nat) (a1 : Int) : Option (Int × (List Nat) × (List Nat)) :=
 (gogeom_Layout_Stride k a0_0) >>= fun r9 =>
 (gogeom_Bounds_extendStride_l1 a1 k (a0_1, a0_2, r9)) >>= fun v2 =>
 some (a0_0, v2.1, v2.2)

theorem gogeom_Bounds_extendStride_sim {k : Nat} {wa0 : Addr} {wa0_1 : Gs} {wa0_2 : Gs} (a0_0 : Int) (a0_1 : List Nat) (a0_2 : List Nat) (a1 : Int) {out : Int × (List Nat) × (List Nat)} (hp : gogeom_Bounds_extendStride k a0_0 a0_1 a0_2 a1 = some out) : Sx.Fn Try.prog 92 [(Vp wa0), (Vi a1)] [⟨.pointer (some wa0), [(Vi a0_0), (Vl (Vs wa0_1)), (Vl (Vs wa0_2))], 150, none⟩, (Rw Kf 32 (Vs wa0_1) a0_1), (Rw Kf 32 (Vs wa0_2) a0_2)] (fun w : Gs × Gs => (Vl (.tuple #[]))) (fun w => [⟨.pointer (some wa0), [(Vi out.1), (Vl (Vs w.1)), (Vl (Vs w.2))], 150, none⟩, (Rw Kf 32 (Vs w.1) out.2.1), (Rw Kf 32 (Vs w.2) out.2.2)]) := by
 unfold gogeom_Bounds_extendStride at hp
 refine fn_of Try.func92 rfl Try.ntmps92 rfl fun E hM => ?_
 refine cr fun K1 hK1 => ?_
 refine s0 (rd_move' rfl) ?_
 refine s0 (rd_nilck' rfl) ?_
 refine s0 (rd_field0' rfl Try.underlying150 rfl info61 rfl) ?_
 refine s0 (rd_load' (i := 0) (o := 0) rfl ⟨rfl, rfl, rfl, rfl⟩ rfl flat61) ?_
 obtain ⟨r9, hr9, hp⟩ := bind_some hp
 refine sx_ox' (ox_calln' (ent_fn' Try.func89 isn89 rfl rfl) (gogeom_Layout_Stride_sim _ hr9 : Sx.Fn Try.prog 89 [(Vi a0_0)] [] (fun x : Unit => (Vi r9)) (fun x => [])) (Hn := fun x : Unit => [⟨.pointer (some wa0), [(Vi a0_0), (Vl (Vs wa0_1)), (Vl (Vs wa0_2))], 150, none⟩, (Rw Kf 32 (Vs wa0_1) a0_1), (Rw Kf 32 (Vs wa0_2) a0_2)]) (fun _ => rfl) rfl rfl) (wt_none' rfl) fun ⟨⟩ => ?_
 refine s0 (rd_assign' rfl) ?_
 refine nk hK1 ?_
 refine cx_block' ?_
 obtain ⟨v2, hy1, hp⟩ := bind_some hp
 refine cx_loopg' (F := gogeom_Bounds_extendStride_l1 a1) (G := fun k R v => gogeom_Bounds_extendStride_l1s a1 k R v.1 v.2.1 v.2.2) (x := (a0_1, a0_2, r9)) (gh := (wa0_1, wa0_2)) (fun (v1 : (List Nat) × (List Nat) × Int) (w1 : Gs × Gs) => (⟨35, [], [(0, (Vp wa0)), (1, (Vi a1)), (4, (Vi v1.2.2))], [⟨.pointer (some wa0), [(Vi a0_0), (Vl (Vs w1.1)), (Vl (Vs w1.2))], 150, none⟩, (Rw Kf 32 (Vs w1.1) v1.1), (Rw Kf 32 (Vs w1.2) v1.2.1)]⟩ : St)) (fun (v2 : (List Nat) × (List Nat)) => Zg E (Exit.exit 0) (fun (w2 : Gs × Gs) => (⟨35, [], [], [⟨.pointer (some wa0), [(Vi a0_0), (Vl (Vs w2.1)), (Vl (Vs w2.2))], 150, none⟩, (Rw Kf 32 (Vs w2.1) v2.1), (Rw Kf 32 (Vs w2.2) v2.2)]⟩ : St))) (fun _ => rfl) (fun _ _ => rfl) ?_ hy1 (tx_to' rfl [0, 1, 2] (sub_cons rfl (sub_cons rfl (sub_cons rfl sub_nil))) (by decide) (pick_cons rfl (pick_cons rfl (pick_cons rfl pick_nil)))) ?_
 ·clear hp hy1
  clear v2
  intro k rec1 KY1 ih1
  rintro ⟨x1, x2, x3⟩ ⟨g901, g902⟩ y1 hp
  replace hp : gogeom_Bounds_extendStride_l1s a1 k rec1 x1 x2 x3 = some y1 := hp
  unfold gogeom_Bounds_extendStride_l1s at hp
  refine cx_seq' fun K6 hK6 => ?_
  refine cr fun K7 hK7 => ?_
  refine s0 (rd_move' rfl) ?_
  refine s0 (rd_move' rfl) ?_
  refine s0 (rd_bin' rfl rfl eg_int ru_lss) ?_
  refine nk hK7 ?_
  refine cx_cond' rfl (fun h3 => ?_) (fun h3 => ?_)
  ·replace hp := (br_t h3).symm.trans hp
   refine cx_skip' ?_
   show TX E K6 _
   refine tx_k' hK6 ?_
   refine cx_seq' fun K8 hK8 => ?_
   refine cx_block' ?_
   refine cx_seq' fun K9 hK9 => ?_
   refine cx_plan' [] [(7, 1), (10, 1)] [(0, 2), (1, 1), (2, 1), (3, 1), (4, 1), (5, 0), (6, 0), (7, 0), (8, 1), (9, 1), (10, 0)] mixed (by kernel_rfl) ?_
   refine px_rb' rfl (rb_move' rfl) rfl rfl (wt_none' rfl) ?_
   refine px_rd' rfl (rd_move' rfl) rfl rfl (wt_none' rfl) ?_
   refine px_rd' rfl (rd_nilck' rfl) rfl rfl (wt_none' rfl) ?_
   refine px_rd' rfl (rd_field' (off := 1) rfl Try.underlying150 rfl info144 rfl) rfl rfl (wt_none' rfl) ?_
   refine px_rd' rfl (rd_load' (i := 0) (o := 1) rfl ⟨rfl, rfl, rfl, rfl⟩ rfl flat144) rfl rfl (wt_none' rfl) ?_
   obtain ⟨r20, hr20, hp⟩ := bind_some hp
   refine px_ox' rfl (ox_calln' (ent_fn' Try.func91 isn91 rfl rfl) (math_Inf_sim _ hr20 : Sx.Fn Try.prog 91 [(Vi 1)] [] (fun x : Unit => (Vg r20)) (fun x => [])) (Hn := fun x : Unit => [⟨.pointer (some wa0), [(Vi a0_0), (Vl (Vs g901)), (Vl (Vs g902))], 150, none⟩, (Rw Kf 32 (Vs g901) x1), (Rw Kf 32 (Vs g902) x2)]) (fun _ => rfl) rfl rfl) rfl bs_nil (wt_none' rfl) fun ⟨⟩ => ?_
   refine px_ox' rfl (ox_rowlit' (K := Kf) (xs := [r20]) (qs := [(0, [(Vg r20)])]) ⟨rfl, ⟨_, rfl, (lv_vl rfl rfl)⟩, trivial⟩ Try.underlying144 info32 rfl rfl rfl rfl rfl (by kernel_rfl) rfl rfl rfl) rfl bs_nil (wt_none' rfl) fun g21 => ?_
   obtain ⟨r22, hr22, hp⟩ := bind_some hp
   refine px_ox' rfl (ox_append' (K := Kf) (i := 2) (xs := x1) (ys := ([r20])) rfl rfl rfl (sr_row' (j := 0) rfl rfl rfl Try.underlying144) hr22 Try.underlying144 info32 rfl rfl rfl (H' := [(Rw Kf 32 (Vs g21) ([r20])), ⟨.pointer (some wa0), [(Vi a0_0), (Vl (Vs g901)), (Vl (Vs g902))], 150, none⟩, (Rw Kf 32 (Vs g902) x2)]) rfl) rfl bs_nil (wt_none' rfl) fun g22 => ?_
   refine px_rd' rfl (rd_nilck' rfl) rfl rfl (wt_none' rfl) ?_
   refine px_rd' rfl (rd_field' (off := 1) rfl Try.underlying150 rfl info144 rfl) rfl rfl (wt_none' rfl) ?_
   refine px_oxv' rfl (oxv_store (i := 2) (o := 1) rfl rfl (lv_vl rfl rfl) ⟨rfl, rfl, rfl, rfl⟩ rfl info144 rfl (H' := [(Rw Kf 32 (Vs g22) r22), (Rw Kf 32 (Vs g21) ([r20])), ⟨.pointer (some wa0), [(Vi a0_0), (Vl (Vs g22)), (Vl (Vs g902))], 150, none⟩, (Rw Kf 32 (Vs g902) x2)]) rfl) rfl rfl bo_nil (wt_none' rfl) fun _ => ?_
   refine px_nil' ?_
   show TX E K9 _
   refine tx_k' hK9 ?_
   refine cx_plan' [] [(7, 1), (10, 1)] [(0, 2), (1, 1), (2, 1), (3, 1), (4, 1), (5, 0), (6, 0), (7, 0), (8, 1), (9, 1), (10, 0)] mixed (by kernel_rfl) ?_
   refine px_rb' rfl (rb_move' rfl) rfl rfl (wt_none' rfl) ?_
   refine px_rd' rfl (rd_move' rfl) rfl rfl (wt_none' rfl) ?_
   refine px_rd' rfl (rd_nilck' rfl) rfl rfl (wt_none' rfl) ?_
   refine px_rd' rfl (rd_field' (off := 2) rfl Try.underlying150 rfl info144 rfl) rfl rfl (wt_none' rfl) ?_
   refine px_rd' rfl (rd_load' (i := 2) (o := 2) rfl ⟨rfl, rfl, rfl, rfl⟩ rfl flat144) rfl rfl (wt_none' rfl) ?_
   obtain ⟨r30, hr30, hp⟩ := bind_some hp
   refine px_ox' rfl (ox_calln' (ent_fn' Try.func91 isn91 rfl rfl) (math_Inf_sim _ hr30 : Sx.Fn Try.prog 91 [(Vi (-1))] [] (fun x : Unit => (Vg r30)) (fun x => [])) (Hn := fun x : Unit => [(Rw Kf 32 (Vs g22) r22), (Rw Kf 32 (Vs g21) ([r20])), ⟨.pointer (some wa0), [(Vi a0_0), (Vl (Vs g22)), (Vl (Vs g902))], 150, none⟩, (Rw Kf 32 (Vs g902) x2)]) (fun _ => rfl) rfl rfl) rfl bs_nil (wt_none' rfl) fun ⟨⟩ => ?_
   refine px_ox' rfl (ox_rowlit' (K := Kf) (xs := [r30]) (qs := [(0, [(Vg r30)])]) ⟨rfl, ⟨_, rfl, (lv_vl rfl rfl)⟩, trivial⟩ Try.underlying144 info32 rfl rfl rfl rfl rfl (by kernel_rfl) rfl rfl rfl) rfl bs_nil (wt_none' rfl) fun g31 => ?_
   obtain ⟨r32, hr32, hp⟩ := bind_some hp
   refine px_ox' rfl (ox_append' (K := Kf) (i := 4) (xs := x2) (ys := ([r30])) rfl rfl rfl (sr_row' (j := 0) rfl rfl rfl Try.underlying144) hr32 Try.underlying144 info32 rfl rfl rfl (H' := [(Rw Kf 32 (Vs g31) ([r30])), (Rw Kf 32 (Vs g22) r22), (Rw Kf 32 (Vs g21) ([r20])), ⟨.pointer (some wa0), [(Vi a0_0), (Vl (Vs g22)), (Vl (Vs g902))], 150, none⟩]) rfl) rfl bs_nil (wt_none' rfl) fun g32 => ?_
   refine px_rd' rfl (rd_nilck' rfl) rfl rfl (wt_none' rfl) ?_
   refine px_rd' rfl (rd_field' (off := 2) rfl Try.underlying150 rfl info144 rfl) rfl rfl (wt_none' rfl) ?_
   refine px_oxv' rfl (oxv_store (i := 4) (o := 2) rfl rfl (lv_vl rfl rfl) ⟨rfl, rfl, rfl, rfl⟩ rfl info144 rfl (H' := [(Rw Kf 32 (Vs g32) r32), (Rw Kf 32 (Vs g31) ([r30])), (Rw Kf 32 (Vs g22) r22), (Rw Kf 32 (Vs g21) ([r20])), ⟨.pointer (some wa0), [(Vi a0_0), (Vl (Vs g22)), (Vl (Vs g32))], 150, none⟩]) rfl) rfl rfl bo_nil (wt_none' rfl) fun _ => ?_
   refine px_nil' ?_
   show TX E K8 _
   refine tx_k' hK8 ?_
   refine cx_region' ?_
   refine s0 (rd_move' rfl) ?_
   refine s0 (rd_bin' rfl rfl eg_int ru_add) ?_
   refine s0 (rd_assign' rfl) ?_
   refine sx_nil' ?_
   show TX E (KY1 _) _
   exact tx_pick' [4, 2, 0] (sub_cons rfl (sub_cons rfl (sub_cons rfl sub_nil))) (by decide) (pick_cons rfl (pick_cons rfl (pick_cons rfl pick_nil))) (ih1 (r22, r32, (iadd .i64 x3 1)) (g22, g32) _ hp)
  replace hp := (br_f h3).symm.trans hp
  refine cx_exit' ?_
  replace hp := Option.some.inj hp
  subst hp
  show TX E (Zg E (Exit.exit 0) _ (Exit.exit 0)) _
  exact tx_zend' (g901, g902) rfl [0, 1, 2] sub_nil (by decide) (pick_cons rfl (pick_cons rfl (pick_cons rfl pick_nil)))
 refine zg_out fun w2 => ?_
 replace hp := Option.some.inj hp
 subst hp
 refine tx_pick' (L' := []) (H' := [⟨.pointer (some wa0), [(Vi a0_0), (Vl (Vs w2.1)), (Vl (Vs w2.2))], 150, none⟩, (Rw Kf 32 (Vs w2.1) v2.1), (Rw Kf 32 (Vs w2.2) v2.2)]) [0, 1, 2] sub_nil (by decide) (pick_cons rfl (pick_cons rfl (pick_cons rfl pick_nil))) ?_
 exact tx_end0' Try.results92 rfl (w2.1, w2.2) rfl (List.Sublist.refl _)

def gogeom_Bounds_extendLayout_j3 (k : Nat) (a0_1 : List Nat) (a0_2 : List Nat) (a0_0 : Int) (a1 : Int) (x3 : Bool) : Option (Int × (List Nat) × (List Nat)) :=
 br x3
  ((cut a0_1 0 2) >>= fun r56 =>
  (idx a0_1 2) >>= fun r62 =>
  (math_Inf k 1) >>= fun r57 =>
  (apd 8 r56 ([r57, r62])) >>= fun r65 =>
  (cut a0_2 0 2) >>= fun r73 =>
  (idx a0_2 2) >>= fun r79 =>
  (math_Inf k (-1)) >>= fun r74 =>
  (apd 8 r73 ([r74, r79])) >>= fun r82 =>
  some (4, r65, r82))
  (br (decide (a0_0 < a1))
   ((gogeom_Layout_Stride k a1) >>= fun r97 =>
   (gogeom_Bounds_extendStride k a0_0 a0_1 a0_2 r97) >>= fun r98 =>
   some (a1, r98.2.1, r98.2.2))
   (some (a0_0, a0_1, a0_2)))
def gogeom_Bounds_extendLayout_j2 (k : Nat) (a0_1 : List Nat) (a0_2 : List Nat) (a0_0 : Int) (a1 : Int) (x2 : Bool) : Option (Int × (List Nat) × (List Nat)) :=
 gogeom_Bounds_extendLayout_j3 k a0_1 a0_2 a0_0 a1 x2
def gogeom_Bounds_extendLayout_j1 (k : Nat) (a0_1 : List Nat) (a0_2 : List Nat) (a0_0 : Int) (a1 : Int) (x1 : Bool) : Option (Int × (List Nat) × (List Nat)) :=
 br x1
  ((math_Inf k 1) >>= fun r19 =>
  (apd 8 a0_1 ([r19])) >>= fun r21 =>
  (math_Inf k (-1)) >>= fun r29 =>
  (apd 8 a0_2 ([r29])) >>= fun r31 =>
  some (4, r21, r31))
  (br (decide (a0_0 = 3))
   (br (decide (a1 = 2))
    (gogeom_Bounds_extendLayout_j2 k a0_1 a0_2 a0_0 a1 true)
    (gogeom_Bounds_extendLayout_j2 k a0_1 a0_2 a0_0 a1 (decide (a1 = 4))))
   (gogeom_Bounds_extendLayout_j3 k a0_1 a0_2 a0_0 a1 false))
def gogeom_Bounds_extendLayout (k : Nat) (a0_0 : Int) (a0_1 : List Nat) (a0_2 : List Nat) (a1 : Int) : Option (Int × (List Nat) × (List Nat)) :=
 br (decide (a0_0 = 2))
  (gogeom_Bounds_extendLayout_j1 k a0_1 a0_2 a0_0 a1 (decide (a1 = 3)))
  (gogeom_Bounds_extendLayout_j1 k a0_1 a0_2 a0_0 a1 false)

theorem gogeom_Bounds_extendLayout_sim {k : Nat} {wa0 : Addr} {wa0_1 : Gs} {wa0_2 : Gs} (a0_0 : Int) (a0_1 : List Nat) (a0_2 : List Nat) (a1 : Int) {out : Int × (List Nat) × (List Nat)} (hp : gogeom_Bounds_extendLayout k a0_0 a0_1 a0_2 a1 = some out) : Sx.Fn Try.prog 86 [(Vp wa0), (Vi a1)] [⟨.pointer (some wa0), [(Vi a0_0), (Vl (Vs wa0_1)), (Vl (Vs wa0_2))], 150, none⟩, (Rw Kf 32 (Vs wa0_1) a0_1), (Rw Kf 32 (Vs wa0_2) a0_2)] (fun w : Gs × Gs => (Vl (.tuple #[]))) (fun w => [⟨.pointer (some wa0), [(Vi out.1), (Vl (Vs w.1)), (Vl (Vs w.2))], 150, none⟩, (Rw Kf 32 (Vs w.1) out.2.1), (Rw Kf 32 (Vs w.2) out.2.2)]) := by
 unfold gogeom_Bounds_extendLayout at hp
 refine fn_of Try.func86 rfl Try.ntmps86 rfl fun E hM => ?_
 refine cx_block' ?_
 refine cr fun K1 hK1 => ?_
 refine s0 (rd_move' rfl) ?_
 refine s0 (rd_nilck' rfl) ?_
 refine s0 (rd_field0' rfl Try.underlying150 rfl info61 rfl) ?_
 refine s0 (rd_load' (i := 0) (o := 0) rfl ⟨rfl, rfl, rfl, rfl⟩ rfl flat61) ?_
 refine s0 (rd_bin' rfl rfl eg_int ru_eql) ?_
 refine s0 (rd_move' rfl) ?_
 refine sx_cutn' 3 (fun (v1 : Bool) => (⟨103, [], [(0, (Vp wa0)), (1, (Vi a1)), (13, (Vb v1))], [⟨.pointer (some wa0), [(Vi a0_0), (Vl (Vs wa0_1)), (Vl (Vs wa0_2))], 150, none⟩, (Rw Kf 32 (Vs wa0_1) a0_1), (Rw Kf 32 (Vs wa0_2) a0_2)]⟩ : St)) (fun (v1 : Bool) => gogeom_Bounds_extendLayout_j1 k a0_1 a0_2 a0_0 a1 v1 = some out) ?_ ?_
 ·rintro x1 hp
  replace hp : gogeom_Bounds_extendLayout_j1 k a0_1 a0_2 a0_0 a1 x1 = some out := hp
  unfold gogeom_Bounds_extendLayout_j1 at hp
  refine s0 (rd_assign' rfl) ?_
  refine nk hK1 ?_
  refine cx_cond' rfl (fun h2 => ?_) (fun h2 => ?_)
  ·replace hp := (br_t h2).symm.trans hp
   refine cx_seq' fun K3 hK3 => ?_
   refine cx_plan' [] [(7, 1), (10, 1)] [(0, 2), (1, 1), (2, 1), (3, 1), (4, 1), (5, 0), (6, 0), (7, 0), (8, 1), (9, 1), (10, 0)] mixed (by kernel_rfl) ?_
   refine px_rb' rfl (rb_move' rfl) rfl rfl (wt_none' rfl) ?_
   refine px_rd' rfl (rd_move' rfl) rfl rfl (wt_none' rfl) ?_
   refine px_rd' rfl (rd_nilck' rfl) rfl rfl (wt_none' rfl) ?_
   refine px_rd' rfl (rd_field' (off := 1) rfl Try.underlying150 rfl info144 rfl) rfl rfl (wt_none' rfl) ?_
   refine px_rd' rfl (rd_load' (i := 0) (o := 1) rfl ⟨rfl, rfl, rfl, rfl⟩ rfl flat144) rfl rfl (wt_none' rfl) ?_
   obtain ⟨r19, hr19, hp⟩ := bind_some hp
   refine px_ox' rfl (ox_calln' (ent_fn' Try.func91 isn91 rfl rfl) (math_Inf_sim _ hr19 : Sx.Fn Try.prog 91 [(Vi 1)] [] (fun x : Unit => (Vg r19)) (fun x => [])) (Hn := fun x : Unit => [⟨.pointer (some wa0), [(Vi a0_0), (Vl (Vs wa0_1)), (Vl (Vs wa0_2))], 150, none⟩, (Rw Kf 32 (Vs wa0_1) a0_1), (Rw Kf 32 (Vs wa0_2) a0_2)]) (fun _ => rfl) rfl rfl) rfl bs_nil (wt_none' rfl) fun ⟨⟩ => ?_
   refine px_ox' rfl (ox_rowlit' (K := Kf) (xs := [r19]) (qs := [(0, [(Vg r19)])]) ⟨rfl, ⟨_, rfl, (lv_vl rfl rfl)⟩, trivial⟩ Try.underlying144 info32 rfl rfl rfl rfl rfl (by kernel_rfl) rfl rfl rfl) rfl bs_nil (wt_none' rfl) fun g20 => ?_
   obtain ⟨r21, hr21, hp⟩ := bind_some hp
   refine px_ox' rfl (ox_append' (K := Kf) (i := 2) (xs := a0_1) (ys := ([r19])) rfl rfl rfl (sr_row' (j := 0) rfl rfl rfl Try.underlying144) hr21 Try.underlying144 info32 rfl rfl rfl (H' := [(Rw Kf 32 (Vs g20) ([r19])), ⟨.pointer (some wa0), [(Vi a0_0), (Vl (Vs wa0_1)), (Vl (Vs wa0_2))], 150, none⟩, (Rw Kf 32 (Vs wa0_2) a0_2)]) rfl) rfl bs_nil (wt_none' rfl) fun g21 => ?_
   refine px_rd' rfl (rd_nilck' rfl) rfl rfl (wt_none' rfl) ?_
   refine px_rd' rfl (rd_field' (off := 1) rfl Try.underlying150 rfl info144 rfl) rfl rfl (wt_none' rfl) ?_
   refine px_oxv' rfl (oxv_store (i := 2) (o := 1) rfl rfl (lv_vl rfl rfl) ⟨rfl, rfl, rfl, rfl⟩ rfl info144 rfl (H' := [(Rw Kf 32 (Vs g21) r21), (Rw Kf 32 (Vs g20) ([r19])), ⟨.pointer (some wa0), [(Vi a0_0), (Vl (Vs g21)), (Vl (Vs wa0_2))], 150, none⟩, (Rw Kf 32 (Vs wa0_2) a0_2)]) rfl) rfl rfl bo_nil (wt_none' rfl) fun _ => ?_
   refine px_nil' ?_
   show TX E K3 _
   refine tx_k' hK3 ?_
   refine cx_seq' fun K4 hK4 => ?_
   refine cx_plan' [] [(7, 1), (10, 1)] [(0, 2), (1, 1), (2, 1), (3, 1), (4, 1), (5, 0), (6, 0), (7, 0), (8, 1), (9, 1), (10, 0)] mixed (by kernel_rfl) ?_
   refine px_rb' rfl (rb_move' rfl) rfl rfl (wt_none' rfl) ?_
   refine px_rd' rfl (rd_move' rfl) rfl rfl (wt_none' rfl) ?_
   refine px_rd' rfl (rd_nilck' rfl) rfl rfl (wt_none' rfl) ?_
   refine px_rd' rfl (rd_field' (off := 2) rfl Try.underlying150 rfl info144 rfl) rfl rfl (wt_none' rfl) ?_
   refine px_rd' rfl (rd_load' (i := 2) (o := 2) rfl ⟨rfl, rfl, rfl, rfl⟩ rfl flat144) rfl rfl (wt_none' rfl) ?_
   obtain ⟨r29, hr29, hp⟩ := bind_some hp
   refine px_ox' rfl (ox_calln' (ent_fn' Try.func91 isn91 rfl rfl) (math_Inf_sim _ hr29 : Sx.Fn Try.prog 91 [(Vi (-1))] [] (fun x : Unit => (Vg r29)) (fun x => [])) (Hn := fun x : Unit => [(Rw Kf 32 (Vs g21) r21), (Rw Kf 32 (Vs g20) ([r19])), ⟨.pointer (some wa0), [(Vi a0_0), (Vl (Vs g21)), (Vl (Vs wa0_2))], 150, none⟩, (Rw Kf 32 (Vs wa0_2) a0_2)]) (fun _ => rfl) rfl rfl) rfl bs_nil (wt_none' rfl) fun ⟨⟩ => ?_
   refine px_ox' rfl (ox_rowlit' (K := Kf) (xs := [r29]) (qs := [(0, [(Vg r29)])]) ⟨rfl, ⟨_, rfl, (lv_vl rfl rfl)⟩, trivial⟩ Try.underlying144 info32 rfl rfl rfl rfl rfl (by kernel_rfl) rfl rfl rfl) rfl bs_nil (wt_none' rfl) fun g30 => ?_
   obtain ⟨r31, hr31, hp⟩ := bind_some hp
   refine px_ox' rfl (ox_append' (K := Kf) (i := 4) (xs := a0_2) (ys := ([r29])) rfl rfl rfl (sr_row' (j := 0) rfl rfl rfl Try.underlying144) hr31 Try.underlying144 info32 rfl rfl rfl (H' := [(Rw Kf 32 (Vs g30) ([r29])), (Rw Kf 32 (Vs g21) r21), (Rw Kf 32 (Vs g20) ([r19])), ⟨.pointer (some wa0), [(Vi a0_0), (Vl (Vs g21)), (Vl (Vs wa0_2))], 150, none⟩]) rfl) rfl bs_nil (wt_none' rfl) fun g31 => ?_
   refine px_rd' rfl (rd_nilck' rfl) rfl rfl (wt_none' rfl) ?_
   refine px_rd' rfl (rd_field' (off := 2) rfl Try.underlying150 rfl info144 rfl) rfl rfl (wt_none' rfl) ?_
   refine px_oxv' rfl (oxv_store (i := 4) (o := 2) rfl rfl (lv_vl rfl rfl) ⟨rfl, rfl, rfl, rfl⟩ rfl info144 rfl (H' := [(Rw Kf 32 (Vs g31) r31), (Rw Kf 32 (Vs g30) ([r29])), (Rw Kf 32 (Vs g21) r21), (Rw Kf 32 (Vs g20) ([r19])), ⟨.pointer (some wa0), [(Vi a0_0), (Vl (Vs g21)), (Vl (Vs g31))], 150, none⟩]) rfl) rfl rfl bo_nil (wt_none' rfl) fun _ => ?_
   refine px_nil' ?_
   show TX E K4 _
   refine tx_k' hK4 ?_
   refine cx_region' ?_
   refine s0 (rd_move' rfl) ?_
   refine s0 (rd_nilck' rfl) ?_
   refine s0 (rd_field0' rfl Try.underlying150 rfl info61 rfl) ?_
   refine sx_ox' (ox_store' (i := 4) (o := 0) rfl rfl (lv_vl rfl rfl) ⟨rfl, rfl, rfl, rfl⟩ rfl info61 rfl (H' := [(Rw Kf 32 (Vs g31) r31), (Rw Kf 32 (Vs g30) ([r29])), (Rw Kf 32 (Vs g21) r21), (Rw Kf 32 (Vs g20) ([r19])), ⟨.pointer (some wa0), [(Vi 4), (Vl (Vs g21)), (Vl (Vs g31))], 150, none⟩]) rfl) (wt_none' rfl) fun _ => ?_
   refine sx_nil' ?_
   replace hp := Option.some.inj hp
   subst hp
   refine tx_pick' (L' := []) (H' := [⟨.pointer (some wa0), [(Vi 4), (Vl (Vs g21)), (Vl (Vs g31))], 150, none⟩, (Rw Kf 32 (Vs g21) r21), (Rw Kf 32 (Vs g31) r31)]) [4, 2, 0] sub_nil (by decide) (pick_cons rfl (pick_cons rfl (pick_cons rfl pick_nil))) ?_
   exact tx_end0' Try.results86 rfl (g21, g31) rfl (List.Sublist.refl _)
  replace hp := (br_f h2).symm.trans hp
  refine cr fun K5 hK5 => ?_
  refine s0 (rd_move' rfl) ?_
  refine s0 (rd_nilck' rfl) ?_
  refine s0 (rd_field0' rfl Try.underlying150 rfl info61 rfl) ?_
  refine s0 (rd_load' (i := 0) (o := 0) rfl ⟨rfl, rfl, rfl, rfl⟩ rfl flat61) ?_
  refine s0 (rd_bin' rfl rfl eg_int ru_eql) ?_
  refine s0 (rd_move' rfl) ?_
  refine sx_cutn' 7 (fun (v3 : Bool) => (⟨103, [], [(0, (Vp wa0)), (1, (Vi a1)), (50, (Vb v3))], [⟨.pointer (some wa0), [(Vi a0_0), (Vl (Vs wa0_1)), (Vl (Vs wa0_2))], 150, none⟩, (Rw Kf 32 (Vs wa0_1) a0_1), (Rw Kf 32 (Vs wa0_2) a0_2)]⟩ : St)) (fun (v3 : Bool) => gogeom_Bounds_extendLayout_j3 k a0_1 a0_2 a0_0 a1 v3 = some out) ?_ ?_
  ·rintro x3 hp
   replace hp : gogeom_Bounds_extendLayout_j3 k a0_1 a0_2 a0_0 a1 x3 = some out := hp
   unfold gogeom_Bounds_extendLayout_j3 at hp
   refine s0 (rd_assign' rfl) ?_
   refine nk hK5 ?_
   refine cx_cond' rfl (fun h5 => ?_) (fun h5 => ?_)
   ·replace hp := (br_t h5).symm.trans hp
    refine cx_seq' fun K8 hK8 => ?_
    refine cx_plan' [] [(14, 1), (17, 1)] [(0, 2), (1, 1), (2, 1), (3, 1), (4, 1), (5, 1), (7, 1), (8, 1), (9, 1), (10, 1), (11, 1), (12, 1), (6, 0), (13, 0), (14, 0), (15, 1), (16, 1), (17, 0)] mixed (by kernel_rfl) ?_
    refine px_rb' rfl (rb_move' rfl) rfl rfl (wt_none' rfl) ?_
    refine px_rd' rfl (rd_move' rfl) rfl rfl (wt_none' rfl) ?_
    refine px_rd' rfl (rd_nilck' rfl) rfl rfl (wt_none' rfl) ?_
    refine px_rd' rfl (rd_field' (off := 1) rfl Try.underlying150 rfl info144 rfl) rfl rfl (wt_none' rfl) ?_
    refine px_rd' rfl (rd_load' (i := 0) (o := 1) rfl ⟨rfl, rfl, rfl, rfl⟩ rfl flat144) rfl rfl (wt_none' rfl) ?_
    obtain ⟨r56, hr56, hp⟩ := bind_some hp
    refine px_rd' rfl (rd_cutpre' (K := Kf) (i := 1) (k1 := .i64) rfl rfl rfl (.inl rfl) rfl hr56 Try.underlying144 info32) rfl rfl (wt_none' rfl) ?_
    refine px_rd' rfl (rd_move' rfl) rfl rfl (wt_none' rfl) ?_
    refine px_rd' rfl (rd_nilck' rfl) rfl rfl (wt_none' rfl) ?_
    refine px_rd' rfl (rd_field' (off := 1) rfl Try.underlying150 rfl info144 rfl) rfl rfl (wt_none' rfl) ?_
    refine px_rd' rfl (rd_load' (i := 0) (o := 1) rfl ⟨rfl, rfl, rfl, rfl⟩ rfl flat144) rfl rfl (wt_none' rfl) ?_
    obtain ⟨r62, hr62, hp⟩ := bind_some hp
    refine px_rd' rfl (rd_atr' (m := 1) rfl rfl rfl rfl hr62 Try.underlying144 info32) rfl rfl (wt_none' rfl) ?_
    refine px_rd' rfl (rd_loadr' rfl (m := 1) (i := 2) (j := 0) rfl rfl hr62 rfl rfl flat32) rfl rfl (wt_none' rfl) ?_
    obtain ⟨r57, hr57, hp⟩ := bind_some hp
    refine px_ox' rfl (ox_calln' (ent_fn' Try.func91 isn91 rfl rfl) (math_Inf_sim _ hr57 : Sx.Fn Try.prog 91 [(Vi 1)] [] (fun x : Unit => (Vg r57)) (fun x => [])) (Hn := fun x : Unit => [⟨.pointer (some wa0), [(Vi a0_0), (Vl (Vs wa0_1)), (Vl (Vs wa0_2))], 150, none⟩, (Rw Kf 32 (Vs wa0_1) a0_1), (Rw Kf 32 (Vs wa0_2) a0_2)]) (fun _ => rfl) rfl rfl) rfl bs_nil (wt_none' rfl) fun ⟨⟩ => ?_
    refine px_ox' rfl (ox_rowlit' (K := Kf) (xs := [r57, r62]) (qs := [(0, [(Vg r57)]), (1, [(Vg r62)])]) ⟨rfl, ⟨_, rfl, (lv_vl rfl rfl)⟩, ⟨rfl, ⟨_, rfl, (lv_vl rfl rfl)⟩, trivial⟩⟩ Try.underlying144 info32 rfl rfl rfl rfl rfl (by kernel_rfl) rfl rfl rfl) rfl bs_nil (wt_none' rfl) fun g64 => ?_
    refine tx_pre' 56 2 (K := Kf) rfl rfl rfl (cut_pre hr56) fun g3 => ?_
    obtain ⟨r65, hr65, hp⟩ := bind_some hp
    refine px_ox' rfl (ox_append' (K := Kf) (i := 2) (xs := r56) (ys := ([r57, r62])) rfl rfl rfl (sr_row' (j := 0) rfl rfl rfl Try.underlying144) hr65 Try.underlying144 info32 rfl rfl rfl (H' := [(Rw Kf 32 (Vs g64) ([r57, r62])), ⟨.pointer (some wa0), [(Vi a0_0), (Vl (Vs wa0_1)), (Vl (Vs wa0_2))], 150, none⟩, (Rw Kf 32 (Vs wa0_2) a0_2)]) rfl) rfl bs_nil (wt_none' rfl) fun g65 => ?_
    refine px_rd' rfl (rd_nilck' rfl) rfl rfl (wt_none' rfl) ?_
    refine px_rd' rfl (rd_field' (off := 1) rfl Try.underlying150 rfl info144 rfl) rfl rfl (wt_none' rfl) ?_
    refine px_oxv' rfl (oxv_store (i := 2) (o := 1) rfl rfl (lv_vl rfl rfl) ⟨rfl, rfl, rfl, rfl⟩ rfl info144 rfl (H' := [(Rw Kf 32 (Vs g65) r65), (Rw Kf 32 (Vs g64) ([r57, r62])), ⟨.pointer (some wa0), [(Vi a0_0), (Vl (Vs g65)), (Vl (Vs wa0_2))], 150, none⟩, (Rw Kf 32 (Vs wa0_2) a0_2)]) rfl) rfl rfl bo_nil (wt_none' rfl) fun _ => ?_
    refine px_nil' ?_
    show TX E K8 _
    refine tx_k' hK8 ?_
    refine cx_seq' fun K9 hK9 => ?_
    refine cx_plan' [] [(14, 1), (17, 1)] [(0, 2), (1, 1), (2, 1), (3, 1), (4, 1), (5, 1), (7, 1), (8, 1), (9, 1), (10, 1), (11, 1), (12, 1), (6, 0), (13, 0), (14, 0), (15, 1), (16, 1), (17, 0)] mixed (by kernel_rfl) ?_
    refine px_rb' rfl (rb_move' rfl) rfl rfl (wt_none' rfl) ?_
    refine px_rd' rfl (rd_move' rfl) rfl rfl (wt_none' rfl) ?_
    refine px_rd' rfl (rd_nilck' rfl) rfl rfl (wt_none' rfl) ?_
    refine px_rd' rfl (rd_field' (off := 2) rfl Try.underlying150 rfl info144 rfl) rfl rfl (wt_none' rfl) ?_
    refine px_rd' rfl (rd_load' (i := 2) (o := 2) rfl ⟨rfl, rfl, rfl, rfl⟩ rfl flat144) rfl rfl (wt_none' rfl) ?_
    obtain ⟨r73, hr73, hp⟩ := bind_some hp
    refine px_rd' rfl (rd_cutpre' (K := Kf) (i := 3) (k1 := .i64) rfl rfl rfl (.inl rfl) rfl hr73 Try.underlying144 info32) rfl rfl (wt_none' rfl) ?_
    refine px_rd' rfl (rd_move' rfl) rfl rfl (wt_none' rfl) ?_
    refine px_rd' rfl (rd_nilck' rfl) rfl rfl (wt_none' rfl) ?_
    refine px_rd' rfl (rd_field' (off := 2) rfl Try.underlying150 rfl info144 rfl) rfl rfl (wt_none' rfl) ?_
    refine px_rd' rfl (rd_load' (i := 2) (o := 2) rfl ⟨rfl, rfl, rfl, rfl⟩ rfl flat144) rfl rfl (wt_none' rfl) ?_
    obtain ⟨r79, hr79, hp⟩ := bind_some hp
    refine px_rd' rfl (rd_atr' (m := 3) rfl rfl rfl rfl hr79 Try.underlying144 info32) rfl rfl (wt_none' rfl) ?_
    refine px_rd' rfl (rd_loadr' rfl (m := 3) (i := 2) (j := 0) rfl rfl hr79 rfl rfl flat32) rfl rfl (wt_none' rfl) ?_
    obtain ⟨r74, hr74, hp⟩ := bind_some hp
    refine px_ox' rfl (ox_calln' (ent_fn' Try.func91 isn91 rfl rfl) (math_Inf_sim _ hr74 : Sx.Fn Try.prog 91 [(Vi (-1))] [] (fun x : Unit => (Vg r74)) (fun x => [])) (Hn := fun x : Unit => [(Rw Kf 32 (Vs g65) r65), (Rw Kf 32 (Vs g64) ([r57, r62])), ⟨.pointer (some wa0), [(Vi a0_0), (Vl (Vs g65)), (Vl (Vs wa0_2))], 150, none⟩, (Rw Kf 32 (Vs wa0_2) a0_2)]) (fun _ => rfl) rfl rfl) rfl bs_nil (wt_none' rfl) fun ⟨⟩ => ?_
    refine px_ox' rfl (ox_rowlit' (K := Kf) (xs := [r74, r79]) (qs := [(0, [(Vg r74)]), (1, [(Vg r79)])]) ⟨rfl, ⟨_, rfl, (lv_vl rfl rfl)⟩, ⟨rfl, ⟨_, rfl, (lv_vl rfl rfl)⟩, trivial⟩⟩ Try.underlying144 info32 rfl rfl rfl rfl rfl (by kernel_rfl) rfl rfl rfl) rfl bs_nil (wt_none' rfl) fun g81 => ?_
    refine tx_pre' 73 4 (K := Kf) rfl rfl rfl (cut_pre hr73) fun g4 => ?_
    obtain ⟨r82, hr82, hp⟩ := bind_some hp
    refine px_ox' rfl (ox_append' (K := Kf) (i := 4) (xs := r73) (ys := ([r74, r79])) rfl rfl rfl (sr_row' (j := 0) rfl rfl rfl Try.underlying144) hr82 Try.underlying144 info32 rfl rfl rfl (H' := [(Rw Kf 32 (Vs g81) ([r74, r79])), (Rw Kf 32 (Vs g65) r65), (Rw Kf 32 (Vs g64) ([r57, r62])), ⟨.pointer (some wa0), [(Vi a0_0), (Vl (Vs g65)), (Vl (Vs wa0_2))], 150, none⟩]) rfl) rfl bs_nil (wt_none' rfl) fun g82 => ?_
    refine px_rd' rfl (rd_nilck' rfl) rfl rfl (wt_none' rfl) ?_
    refine px_rd' rfl (rd_field' (off := 2) rfl Try.underlying150 rfl info144 rfl) rfl rfl (wt_none' rfl) ?_
    refine px_oxv' rfl (oxv_store (i := 4) (o := 2) rfl rfl (lv_vl rfl rfl) ⟨rfl, rfl, rfl, rfl⟩ rfl info144 rfl (H' := [(Rw Kf 32 (Vs g82) r82), (Rw Kf 32 (Vs g81) ([r74, r79])), (Rw Kf 32 (Vs g65) r65), (Rw Kf 32 (Vs g64) ([r57, r62])), ⟨.pointer (some wa0), [(Vi a0_0), (Vl (Vs g65)), (Vl (Vs g82))], 150, none⟩]) rfl) rfl rfl bo_nil (wt_none' rfl) fun _ => ?_
    refine px_nil' ?_
    show TX E K9 _
    refine tx_k' hK9 ?_
    refine cx_region' ?_
    refine s0 (rd_move' rfl) ?_
    refine s0 (rd_nilck' rfl) ?_
    refine s0 (rd_field0' rfl Try.underlying150 rfl info61 rfl) ?_
    refine sx_ox' (ox_store' (i := 4) (o := 0) rfl rfl (lv_vl rfl rfl) ⟨rfl, rfl, rfl, rfl⟩ rfl info61 rfl (H' := [(Rw Kf 32 (Vs g82) r82), (Rw Kf 32 (Vs g81) ([r74, r79])), (Rw Kf 32 (Vs g65) r65), (Rw Kf 32 (Vs g64) ([r57, r62])), ⟨.pointer (some wa0), [(Vi 4), (Vl (Vs g65)), (Vl (Vs g82))], 150, none⟩]) rfl) (wt_none' rfl) fun _ => ?_
    refine sx_nil' ?_
    replace hp := Option.some.inj hp
    subst hp
    refine tx_pick' (L' := []) (H' := [⟨.pointer (some wa0), [(Vi 4), (Vl (Vs g65)), (Vl (Vs g82))], 150, none⟩, (Rw Kf 32 (Vs g65) r65), (Rw Kf 32 (Vs g82) r82)]) [4, 2, 0] sub_nil (by decide) (pick_cons rfl (pick_cons rfl (pick_cons rfl pick_nil))) ?_
    exact tx_end0' Try.results86 rfl (g65, g82) rfl (List.Sublist.refl _)
   replace hp := (br_f h5).symm.trans hp
   refine cr fun K10 hK10 => ?_
   refine s0 (rd_move' rfl) ?_
   refine s0 (rd_nilck' rfl) ?_
   refine s0 (rd_field0' rfl Try.underlying150 rfl info61 rfl) ?_
   refine s0 (rd_load' (i := 0) (o := 0) rfl ⟨rfl, rfl, rfl, rfl⟩ rfl flat61) ?_
   refine s0 (rd_move' rfl) ?_
   refine s0 (rd_bin' rfl rfl eg_int ru_lss) ?_
   refine s0 (rd_assign' rfl) ?_
   refine nk hK10 ?_
   refine cx_cond' rfl (fun h6 => ?_) (fun h6 => ?_)
   ·replace hp := (br_t h6).symm.trans hp
    refine cr fun K11 hK11 => ?_
    refine s0 (rd_move' rfl) ?_
    refine s0 (rd_move' rfl) ?_
    obtain ⟨r97, hr97, hp⟩ := bind_some hp
    refine sx_ox' (ox_calln' (ent_fn' Try.func89 isn89 rfl rfl) (gogeom_Layout_Stride_sim _ hr97 : Sx.Fn Try.prog 89 [(Vi a1)] [] (fun x : Unit => (Vi r97)) (fun x => [])) (Hn := fun x : Unit => [⟨.pointer (some wa0), [(Vi a0_0), (Vl (Vs wa0_1)), (Vl (Vs wa0_2))], 150, none⟩, (Rw Kf 32 (Vs wa0_1) a0_1), (Rw Kf 32 (Vs wa0_2) a0_2)]) (fun _ => rfl) rfl rfl) (wt_none' rfl) fun ⟨⟩ => ?_
    obtain ⟨r98, hr98, hp⟩ := bind_some hp
    refine sx_ox' (ox_callg' (ent_fn' Try.func92 isn92 rfl rfl) (gogeom_Bounds_extendStride_sim _ _ _ _ hr98 : Sx.Fn Try.prog 92 [(Vp wa0), (Vi r97)] [⟨.pointer (some wa0), [(Vi a0_0), (Vl (Vs wa0_1)), (Vl (Vs wa0_2))], 150, none⟩, (Rw Kf 32 (Vs wa0_1) a0_1), (Rw Kf 32 (Vs wa0_2) a0_2)] (fun x : Gs × Gs => (Vl (.tuple #[]))) (fun x => [⟨.pointer (some wa0), [(Vi r98.1), (Vl (Vs x.1)), (Vl (Vs x.2))], 150, none⟩, (Rw Kf 32 (Vs x.1) r98.2.1), (Rw Kf 32 (Vs x.2) r98.2.2)])) [0, 1, 2] [] (by decide) (pick_cons rfl (pick_cons rfl (pick_cons rfl pick_nil))) pick_nil (Hn := fun x : Gs × Gs => [⟨.pointer (some wa0), [(Vi r98.1), (Vl (Vs x.1)), (Vl (Vs x.2))], 150, none⟩, (Rw Kf 32 (Vs x.1) r98.2.1), (Rw Kf 32 (Vs x.2) r98.2.2)]) (fun _ => rfl) rfl rfl) (wt_none' rfl) fun ⟨g98, gz1⟩ => ?_
    refine nk hK11 ?_
    refine cx_region' ?_
    refine s0 (rd_move' rfl) ?_
    refine s0 (rd_move' rfl) ?_
    refine s0 (rd_nilck' rfl) ?_
    refine s0 (rd_field0' rfl Try.underlying150 rfl info61 rfl) ?_
    refine sx_ox' (ox_store' (i := 0) (o := 0) rfl rfl (lv_vl rfl rfl) ⟨rfl, rfl, rfl, rfl⟩ rfl info61 rfl (H' := [⟨.pointer (some wa0), [(Vi a1), (Vl (Vs g98)), (Vl (Vs gz1))], 150, none⟩, (Rw Kf 32 (Vs g98) r98.2.1), (Rw Kf 32 (Vs gz1) r98.2.2)]) rfl) (wt_none' rfl) fun _ => ?_
    refine sx_nil' ?_
    replace hp := Option.some.inj hp
    subst hp
    refine tx_pick' (L' := []) (H' := [⟨.pointer (some wa0), [(Vi a1), (Vl (Vs g98)), (Vl (Vs gz1))], 150, none⟩, (Rw Kf 32 (Vs g98) r98.2.1), (Rw Kf 32 (Vs gz1) r98.2.2)]) [0, 1, 2] sub_nil (by decide) (pick_cons rfl (pick_cons rfl (pick_cons rfl pick_nil))) ?_
    exact tx_end0' Try.results86 rfl (g98, gz1) rfl (List.Sublist.refl _)
   replace hp := (br_f h6).symm.trans hp
   refine cx_skip' ?_
   replace hp := Option.some.inj hp
   subst hp
   refine tx_pick' (L' := []) (H' := [⟨.pointer (some wa0), [(Vi a0_0), (Vl (Vs wa0_1)), (Vl (Vs wa0_2))], 150, none⟩, (Rw Kf 32 (Vs wa0_1) a0_1), (Rw Kf 32 (Vs wa0_2) a0_2)]) [0, 1, 2] sub_nil (by decide) (pick_cons rfl (pick_cons rfl (pick_cons rfl pick_nil))) ?_
   exact tx_end0' Try.results86 rfl (wa0_1, wa0_2) rfl (List.Sublist.refl _)
  intro K7 hK7
  rcases br_cases hp with ⟨h3, hp⟩ | ⟨h3, hp⟩
  ·refine sx_rd' (rd_move' rfl) rfl rfl (wt_is' (wt_guard' rfl rfl rfl) (beq_tt h3)) ?_
   refine sx_rd' (rd_bin' rfl rfl eg_int ru_eql) rfl rfl (wt_is' (wt_guard' rfl rfl rfl) (beq_tt h3)) ?_
   refine sx_rd' (rd_move' rfl) rfl rfl (wt_is' (wt_guard' rfl rfl rfl) (beq_tt h3)) ?_
   refine sx_cutn' 4 (fun (v2 : Bool) => (⟨103, [], [(0, (Vp wa0)), (1, (Vi a1)), (50, (Vb v2))], [⟨.pointer (some wa0), [(Vi a0_0), (Vl (Vs wa0_1)), (Vl (Vs wa0_2))], 150, none⟩, (Rw Kf 32 (Vs wa0_1) a0_1), (Rw Kf 32 (Vs wa0_2) a0_2)]⟩ : St)) (fun (v2 : Bool) => gogeom_Bounds_extendLayout_j2 k a0_1 a0_2 a0_0 a1 v2 = some out) ?_ ?_
   ·rintro x2 hp
    replace hp : gogeom_Bounds_extendLayout_j2 k a0_1 a0_2 a0_0 a1 x2 = some out := hp
    unfold gogeom_Bounds_extendLayout_j2 at hp
    refine sx_nil' ?_
    show TX E K7 _
    exact tx_pick' [0, 1, 2] (sub_cons rfl (sub_cons rfl (sub_cons rfl sub_nil))) (by decide) (pick_cons rfl (pick_cons rfl (pick_cons rfl pick_nil))) (hK7 x2 hp)
   intro K6 hK6
   rcases br_cases hp with ⟨h4, hp⟩ | ⟨h4, hp⟩
   ·refine sx_skip' rfl rfl (wt_is' (wt_guard' rfl rfl rfl) (beq_tf h4)) ?_
    refine sx_skip' rfl rfl (wt_is' (wt_guard' rfl rfl rfl) (beq_tf h4)) ?_
    refine sx_rd' (rd_pick_true' rfl h4 rfl) rfl rfl (wt_is' (wt_guard' rfl rfl rfl) (beq_tt h3)) ?_
    refine s0 (rd_pick_true' rfl h3 rfl) ?_
    refine sx_nil' ?_
    show TX E K6 _
    exact tx_pick' [0, 1, 2] (sub_cons rfl (sub_cons rfl (sub_cons rfl sub_nil))) (by decide) (pick_cons rfl (pick_cons rfl (pick_cons rfl pick_nil))) (hK6 true hp)
   refine sx_rd' (rd_move' rfl) rfl rfl (wt_is' (wt_guard' rfl rfl rfl) (beq_ff h4)) ?_
   refine sx_rd' (rd_bin' rfl rfl eg_int ru_eql) rfl rfl (wt_is' (wt_guard' rfl rfl rfl) (beq_ff h4)) ?_
   refine sx_rd' (rd_pick_false' rfl h4 rfl) rfl rfl (wt_is' (wt_guard' rfl rfl rfl) (beq_tt h3)) ?_
   refine s0 (rd_pick_true' rfl h3 rfl) ?_
   refine sx_nil' ?_
   show TX E K6 _
   exact tx_pick' [0, 1, 2] (sub_cons rfl (sub_cons rfl (sub_cons rfl sub_nil))) (by decide) (pick_cons rfl (pick_cons rfl (pick_cons rfl pick_nil))) (hK6 (decide (a1 = 4)) hp)
  refine sx_skip' rfl rfl (wt_is' (wt_guard' rfl rfl rfl) (beq_ft h3)) ?_
  refine sx_skip' rfl rfl (wt_is' (wt_guard' rfl rfl rfl) (beq_ft h3)) ?_
  refine sx_skip' rfl rfl (wt_is' (wt_guard' rfl rfl rfl) (beq_ft h3)) ?_
  refine sx_skip' rfl rfl (wt_undef' rfl rfl rfl) ?_
  refine sx_skip' rfl rfl (wt_undef' rfl rfl rfl) ?_
  refine sx_skip' rfl rfl (wt_is' (wt_guard' rfl rfl rfl) (beq_ft h3)) ?_
  refine s0 (rd_pick_false' rfl h3 rfl) ?_
  refine sx_nil' ?_
  show TX E K7 _
  exact tx_pick' [0, 1, 2] (sub_cons rfl (sub_cons rfl (sub_cons rfl sub_nil))) (by decide) (pick_cons rfl (pick_cons rfl (pick_cons rfl pick_nil))) (hK7 false hp)
 intro K2 hK2
 rcases br_cases hp with ⟨h1, hp⟩ | ⟨h1, hp⟩
 ·refine sx_rd' (rd_move' rfl) rfl rfl (wt_is' (wt_guard' rfl rfl rfl) (beq_tt h1)) ?_
  refine sx_rd' (rd_bin' rfl rfl eg_int ru_eql) rfl rfl (wt_is' (wt_guard' rfl rfl rfl) (beq_tt h1)) ?_
  refine s0 (rd_pick_true' rfl h1 rfl) ?_
  refine sx_nil' ?_
  show TX E K2 _
  exact tx_pick' [0, 1, 2] (sub_cons rfl (sub_cons rfl (sub_cons rfl sub_nil))) (by decide) (pick_cons rfl (pick_cons rfl (pick_cons rfl pick_nil))) (hK2 (decide (a1 = 3)) hp)
 refine sx_skip' rfl rfl (wt_is' (wt_guard' rfl rfl rfl) (beq_ft h1)) ?_
 refine sx_skip' rfl rfl (wt_is' (wt_guard' rfl rfl rfl) (beq_ft h1)) ?_
 refine s0 (rd_pick_false' rfl h1 rfl) ?_
 refine sx_nil' ?_
 show TX E K2 _
 exact tx_pick' [0, 1, 2] (sub_cons rfl (sub_cons rfl (sub_cons rfl sub_nil))) (by decide) (pick_cons rfl (pick_cons rfl (pick_cons rfl pick_nil))) (hK2 false hp)

def gogeom_geom0_FlatCoords (k : Nat) (a0_0 : Int) (a0_1 : Int) (a0_2 : List Nat) (a0_3 : Int) : Option (Int × Int × (List Nat) × Int) :=
 some (a0_0, a0_1, a0_2, a0_3)

theorem gogeom_geom0_FlatCoords_sim {k : Nat} {wa0 : Addr} (a0_0 : Int) (a0_1 : Int) (a0_2 : List Nat) (a0_3 : Int) {out : Int × Int × (List Nat) × Int} (hp : gogeom_geom0_FlatCoords k a0_0 a0_1 a0_2 a0_3 = some out) : Sx.Fn Try.prog 133 [(Vp wa0)] [⟨.pointer (some wa0), [(Vi a0_0), (Vi a0_1), (Sl Kf a0_2), (Vi a0_3)], 135, none⟩] (fun w : Unit => (Sl Kf out.2.2.1)) (fun w => [⟨.pointer (some wa0), [(Vi out.1), (Vi out.2.1), (Sl Kf out.2.2.1), (Vi out.2.2.2)], 135, none⟩]) := by
 unfold gogeom_geom0_FlatCoords at hp
 refine fn_of Try.func133 rfl Try.ntmps133 rfl fun E hM => ?_
 refine cr fun K1 hK1 => ?_
 refine s0 (rd_assign' rfl) ?_
 refine nk hK1 ?_
 refine cr fun K2 hK2 => ?_
 refine s0 (rd_move' rfl) ?_
 refine s0 (rd_nilck' rfl) ?_
 refine s0 (rd_field' (off := 2) rfl Try.underlying124 rfl info22 rfl) ?_
 refine s0 (rd_load' (i := 0) (o := 2) rfl ⟨rfl, rfl, rfl, rfl⟩ rfl flat22) ?_
 refine s0 (rd_assign' rfl) ?_
 refine nk hK2 ?_
 refine cx_retc' ?_
 replace hp := Option.some.inj hp
 subst hp
 refine tx_pick' (L' := [(2, (Sl Kf a0_2))]) (H' := [⟨.pointer (some wa0), [(Vi a0_0), (Vi a0_1), (Sl Kf a0_2), (Vi a0_3)], 135, none⟩]) [0] (sub_cons rfl sub_nil) (by decide) (pick_cons rfl pick_nil) ?_
 exact tx_ret1' Try.results133 rfl () (rv_tmp' rfl) (List.Sublist.refl _)

def math_Min (k : Nat) (a0 : Nat) (a1 : Nat) : Option (Nat) :=
 some (mpick true .lt a0 a1)

theorem math_Min_sim {k : Nat}  (a0 : Nat) (a1 : Nat) {out : Nat} (hp : math_Min k a0 a1 = some out) : Sx.Fn Try.prog 93 [(Vg a0), (Vg a1)] [] (fun w : Unit => (Vg out)) (fun w => []) := by
 unfold math_Min at hp
 refine fn_of Try.func93 rfl Try.ntmps93 rfl fun E hM => ?_
 refine cr fun K1 hK1 => ?_
 refine s0 (rd_assign' rfl) ?_
 refine nk hK1 ?_
 refine cx_seq' fun K2 hK2 => ?_
 refine cx_cond_t' rfl rfl ?_
 refine cr fun K3 hK3 => ?_
 refine s0 (rd_move' rfl) ?_
 refine s0 (rd_move' rfl) ?_
 refine s0 (rd_ext' (us := [.float .f64 a0, .float .f64 a1]) rfl (ext96 ex_pick)) ?_
 refine s0 (rd_assign' rfl) ?_
 refine nk hK3 ?_
 refine cx_retc' ?_
 replace hp := Option.some.inj hp
 subst hp
 refine tx_pick' (L' := [(4, (Vg (mpick true .lt a0 a1)))]) (H' := []) [] (sub_cons rfl sub_nil) (by decide) pick_nil ?_
 exact tx_ret1' Try.results93 rfl () (rv_tmp' rfl) (List.Sublist.refl _)

def math_Max (k : Nat) (a0 : Nat) (a1 : Nat) : Option (Nat) :=
 some (mpick false .gt a0 a1)

theorem math_Max_sim {k : Nat}  (a0 : Nat) (a1 : Nat) {out : Nat} (hp : math_Max k a0 a1 = some out) : Sx.Fn Try.prog 94 [(Vg a0), (Vg a1)] [] (fun w : Unit => (Vg out)) (fun w => []) := by
 unfold math_Max at hp
 refine fn_of Try.func94 rfl Try.ntmps94 rfl fun E hM => ?_
 refine cr fun K1 hK1 => ?_
 refine s0 (rd_assign' rfl) ?_
 refine nk hK1 ?_
 refine cx_seq' fun K2 hK2 => ?_
 refine cx_cond_t' rfl rfl ?_
 refine cr fun K3 hK3 => ?_
 refine s0 (rd_move' rfl) ?_
 refine s0 (rd_move' rfl) ?_
 refine s0 (rd_ext' (us := [.float .f64 a0, .float .f64 a1]) rfl (ext98 ex_pick)) ?_
 refine s0 (rd_assign' rfl) ?_
 refine nk hK3 ?_
 refine cx_retc' ?_
 replace hp := Option.some.inj hp
 subst hp
 refine tx_pick' (L' := [(4, (Vg (mpick false .gt a0 a1)))]) (H' := []) [] (sub_cons rfl sub_nil) (by decide) pick_nil ?_
 exact tx_ret1' Try.results94 rfl () (rv_tmp' rfl) (List.Sublist.refl _)

def gogeom_Bounds_extendXYZMFlatCoordsWithXYM_l1s (a3 : Int) (a1 : List Nat) (k : Nat) (rec1 : ((List Nat) × (List Nat) × Int) → Option ((List Nat) × (List Nat))) (x1 : List Nat) (x2 : List Nat) (x3 : Int) : Option ((List Nat) × (List Nat)) :=
 br (decide (x3 < a3))
  ((idx x1 0) >>= fun r24 =>
  (idx a1 (iadd .i64 x3 0)) >>= fun r29 =>
  (math_Min k r24 r29) >>= fun r31 =>
  (idx x1 0) >>= fun r32 =>
  (idx x2 0) >>= fun r41 =>
  (idx a1 (iadd .i64 x3 0)) >>= fun r46 =>
  (math_Max k r41 r46) >>= fun r48 =>
  (idx x2 0) >>= fun r49 =>
  (idx (x1.set (0 : Int).toNat r31) 1) >>= fun r58 =>
  (idx a1 (iadd .i64 x3 1)) >>= fun r63 =>
  (math_Min k r58 r63) >>= fun r65 =>
  (idx (x1.set (0 : Int).toNat r31) 1) >>= fun r66 =>
  (idx (x2.set (0 : Int).toNat r48) 1) >>= fun r75 =>
  (idx a1 (iadd .i64 x3 1)) >>= fun r80 =>
  (math_Max k r75 r80) >>= fun r82 =>
  (idx (x2.set (0 : Int).toNat r48) 1) >>= fun r83 =>
  (idx ((x1.set (0 : Int).toNat r31).set (1 : Int).toNat r65) 3) >>= fun r92 =>
  (idx a1 (iadd .i64 x3 2)) >>= fun r97 =>
  (math_Min k r92 r97) >>= fun r99 =>
  (idx ((x1.set (0 : Int).toNat r31).set (1 : Int).toNat r65) 3) >>= fun r100 =>
  (idx ((x2.set (0 : Int).toNat r48).set (1 : Int).toNat r82) 3) >>= fun r109 =>
  (idx a1 (iadd .i64 x3 2)) >>= fun r114 =>
  (math_Max k r109 r114) >>= fun r116 =>
  (idx ((x2.set (0 : Int).toNat r48).set (1 : Int).toNat r82) 3) >>= fun r117 =>
  rec1 ((((x1.set (0 : Int).toNat r31).set (1 : Int).toNat r65).set (3 : Int).toNat r99), (((x2.set (0 : Int).toNat r48).set (1 : Int).toNat r82).set (3 : Int).toNat r116), (iadd .i64 x3 3)))
  (some (x1, x2))
def gogeom_Bounds_extendXYZMFlatCoordsWithXYM_l1 (a3 : Int) (a1 : List Nat) : Nat → ((List Nat) × (List Nat) × Int) → Option ((List Nat) × (List Nat))
 | 0, _ => none
 | k + 1, v => gogeom_Bounds_extendXYZMFlatCoordsWithXYM_l1s a3 a1 k (gogeom_Bounds_extendXYZMFlatCoordsWithXYM_l1 a3 a1 k) v.1 v.2.1 v.2.2
def gogeom_Bounds_extendXYZMFlatCoordsWithXYM (k : Nat) (a0_0 : Int) (a0_1 : List Nat) (a0_2 : List Nat) (a1 : List Nat) (a2 : Int) (a3 : Int) : Option (Int × (List Nat) × (List Nat)) :=
 (gogeom_Bounds_extendXYZMFlatCoordsWithXYM_l1 a3 a1 k (a0_1, a0_2, a2)) >>= fun v2 =>
 some (a0_0, v2.1, v2.2)

theorem gogeom_Bounds_extendXYZMFlatCoordsWithXYM_sim {k : Nat} {wa0 : Addr} {wa0_1 : Gs} {wa0_2 : Gs} (a0_0 : Int) (a0_1 : List Nat) (a0_2 : List Nat) (a1 : List Nat) (a2 : Int) (a3 : Int) {out : Int × (List Nat) × (List Nat)} (hp : gogeom_Bounds_extendXYZMFlatCoordsWithXYM k a0_0 a0_1 a0_2 a1 a2 a3 = some out) : Sx.Fn Try.prog 87 [(Vp wa0), (Sl Kf a1), (Vi a2), (Vi a3)] [⟨.pointer (some wa0), [(Vi a0_0), (Vl (Vs wa0_1)), (Vl (Vs wa0_2))], 150, none⟩, (Rw Kf 32 (Vs wa0_1) a0_1), (Rw Kf 32 (Vs wa0_2) a0_2)] (fun w : Unit => (Vp wa0)) (fun w => [⟨.pointer (some wa0), [(Vi out.1), (Vl (Vs wa0_1)), (Vl (Vs wa0_2))], 150, none⟩, (Rw Kf 32 (Vs wa0_1) out.2.1), (Rw Kf 32 (Vs wa0_2) out.2.2)]) := by
 unfold gogeom_Bounds_extendXYZMFlatCoordsWithXYM at hp
 refine fn_of Try.func87 rfl Try.ntmps87 rfl fun E hM => ?_
 refine cr fun K1 hK1 => ?_
 refine s0 (rd_assign' rfl) ?_
 refine nk hK1 ?_
 refine cx_seq' fun K2 hK2 => ?_
 refine cr fun K3 hK3 => ?_
 refine s0 (rd_move' rfl) ?_
 refine s0 (rd_assign' rfl) ?_
 refine nk hK3 ?_
 refine cx_block' ?_
 obtain ⟨v2, hy1, hp⟩ := bind_some hp
 refine cx_loopg' (F := gogeom_Bounds_extendXYZMFlatCoordsWithXYM_l1 a3 a1) (G := fun k R v => gogeom_Bounds_extendXYZMFlatCoordsWithXYM_l1s a3 a1 k R v.1 v.2.1 v.2.2) (x := (a0_1, a0_2, a2)) (gh := ()) (fun (v1 : (List Nat) × (List Nat) × Int) (w1 : Unit) => (⟨119, [], [(0, (Vp wa0)), (1, (Sl Kf a1)), (3, (Vi a3)), (9, (Vi v1.2.2))], [⟨.pointer (some wa0), [(Vi a0_0), (Vl (Vs wa0_1)), (Vl (Vs wa0_2))], 150, none⟩, (Rw Kf 32 (Vs wa0_1) v1.1), (Rw Kf 32 (Vs wa0_2) v1.2.1)]⟩ : St)) (fun (v2 : (List Nat) × (List Nat)) => Zg E (Exit.exit 0) (fun (w2 : Unit) => (⟨119, [], [(0, (Vp wa0))], [⟨.pointer (some wa0), [(Vi a0_0), (Vl (Vs wa0_1)), (Vl (Vs wa0_2))], 150, none⟩, (Rw Kf 32 (Vs wa0_1) v2.1), (Rw Kf 32 (Vs wa0_2) v2.2)]⟩ : St))) (fun _ => rfl) (fun _ _ => rfl) ?_ hy1 (tx_to' rfl [0, 1, 2] (sub_cons rfl (sub_cons rfl (sub_cons rfl (sub_cons rfl sub_nil)))) (by decide) (pick_cons rfl (pick_cons rfl (pick_cons rfl pick_nil)))) ?_
 ·clear hp hy1
  clear v2
  intro k rec1 KY1 ih1
  rintro ⟨x1, x2, x3⟩ ⟨⟩ y1 hp
  replace hp : gogeom_Bounds_extendXYZMFlatCoordsWithXYM_l1s a3 a1 k rec1 x1 x2 x3 = some y1 := hp
  unfold gogeom_Bounds_extendXYZMFlatCoordsWithXYM_l1s at hp
  refine cx_seq' fun K12 hK12 => ?_
  refine cr fun K13 hK13 => ?_
  refine s0 (rd_move' rfl) ?_
  refine s0 (rd_move' rfl) ?_
  refine s0 (rd_bin' rfl rfl eg_int ru_lss) ?_
  refine nk hK13 ?_
  refine cx_cond' rfl (fun h3 => ?_) (fun h3 => ?_)
  ·replace hp := (br_t h3).symm.trans hp
   refine cx_skip' ?_
   show TX E K12 _
   refine tx_k' hK12 ?_
   refine cx_seq' fun K14 hK14 => ?_
   refine cx_block' ?_
   refine cx_seq' fun K15 hK15 => ?_
   refine cx_plan' [] [(17, 1)] [(0, 1), (1, 1), (2, 1), (3, 1), (4, 1), (5, 1), (6, 1), (7, 1), (8, 1), (9, 1), (10, 1), (11, 1), (12, 1), (13, 1), (14, 1), (15, 0), (16, 1), (17, 0)] mixed (by kernel_rfl) ?_
   refine px_rd' rfl (rd_move' rfl) rfl rfl (wt_none' rfl) ?_
   refine px_rd' rfl (rd_nilck' rfl) rfl rfl (wt_none' rfl) ?_
   refine px_rd' rfl (rd_field' (off := 1) rfl Try.underlying150 rfl info144 rfl) rfl rfl (wt_none' rfl) ?_
   refine px_rd' rfl (rd_load' (i := 0) (o := 1) rfl ⟨rfl, rfl, rfl, rfl⟩ rfl flat144) rfl rfl (wt_none' rfl) ?_
   refine px_rd' rfl (rd_move' rfl) rfl rfl (wt_none' rfl) ?_
   refine px_rd' rfl (rd_nilck' rfl) rfl rfl (wt_none' rfl) ?_
   refine px_rd' rfl (rd_field' (off := 1) rfl Try.underlying150 rfl info144 rfl) rfl rfl (wt_none' rfl) ?_
   refine px_rd' rfl (rd_load' (i := 0) (o := 1) rfl ⟨rfl, rfl, rfl, rfl⟩ rfl flat144) rfl rfl (wt_none' rfl) ?_
   obtain ⟨r24, hr24, hp⟩ := bind_some hp
   refine px_rd' rfl (rd_atr' (m := 1) rfl rfl rfl rfl hr24 Try.underlying144 info32) rfl rfl (wt_none' rfl) ?_
   refine px_rd' rfl (rd_loadr' rfl (m := 1) (i := 0) (j := 0) rfl rfl hr24 rfl rfl flat32) rfl rfl (wt_none' rfl) ?_
   refine px_rd' rfl (rd_move' rfl) rfl rfl (wt_none' rfl) ?_
   refine px_rd' rfl (rd_move' rfl) rfl rfl (wt_none' rfl) ?_
   refine px_rd' rfl (rd_bin' rfl rfl eg_int ru_add) rfl rfl (wt_none' rfl) ?_
   obtain ⟨r29, hr29, hp⟩ := bind_some hp
   refine px_rd' rfl (rd_at' (K := Kf) rfl rfl hr29 Try.underlying22 info32) rfl rfl (wt_none' rfl) ?_
   refine px_rd' rfl (rd_load_pt' rfl rfl flat32) rfl rfl (wt_none' rfl) ?_
   obtain ⟨r31, hr31, hp⟩ := bind_some hp
   refine px_ox' rfl (ox_calln' (ent_fn' Try.func93 isn93 rfl rfl) (math_Min_sim _ _ hr31 : Sx.Fn Try.prog 93 [(Vg r24), (Vg r29)] [] (fun x : Unit => (Vg r31)) (fun x => [])) (Hn := fun x : Unit => [⟨.pointer (some wa0), [(Vi a0_0), (Vl (Vs wa0_1)), (Vl (Vs wa0_2))], 150, none⟩, (Rw Kf 32 (Vs wa0_1) x1), (Rw Kf 32 (Vs wa0_2) x2)]) (fun _ => rfl) rfl rfl) rfl bs_nil (wt_none' rfl) fun ⟨⟩ => ?_
   obtain ⟨r32, hr32, hp⟩ := bind_some hp
   refine px_rd' rfl (rd_atr' (m := 1) rfl rfl rfl rfl hr32 Try.underlying144 info32) rfl rfl (wt_none' rfl) ?_
   refine px_ox' rfl (ox_storer' (m := 1) (i := 0) (j := 0) (x' := r31) rfl rfl (lv_vl rfl rfl) rfl rfl hr32 rfl rfl rfl info32 rfl (H' := [⟨.pointer (some wa0), [(Vi a0_0), (Vl (Vs wa0_1)), (Vl (Vs wa0_2))], 150, none⟩, (Rw Kf 32 (Vs wa0_1) (x1.set (0 : Int).toNat r31)), (Rw Kf 32 (Vs wa0_2) x2)]) rfl) rfl bs_nil (wt_none' rfl) fun _ => ?_
   refine px_nil' ?_
   show TX E K15 _
   refine tx_k' hK15 ?_
   refine cx_seq' fun K16 hK16 => ?_
   refine cx_plan' [] [(17, 1)] [(0, 1), (1, 1), (2, 1), (3, 1), (4, 1), (5, 1), (6, 1), (7, 1), (8, 1), (9, 1), (10, 1), (11, 1), (12, 1), (13, 1), (14, 1), (15, 0), (16, 1), (17, 0)] mixed (by kernel_rfl) ?_
   refine px_rd' rfl (rd_move' rfl) rfl rfl (wt_none' rfl) ?_
   refine px_rd' rfl (rd_nilck' rfl) rfl rfl (wt_none' rfl) ?_
   refine px_rd' rfl (rd_field' (off := 2) rfl Try.underlying150 rfl info144 rfl) rfl rfl (wt_none' rfl) ?_
   refine px_rd' rfl (rd_load' (i := 0) (o := 2) rfl ⟨rfl, rfl, rfl, rfl⟩ rfl flat144) rfl rfl (wt_none' rfl) ?_
   refine px_rd' rfl (rd_move' rfl) rfl rfl (wt_none' rfl) ?_
   refine px_rd' rfl (rd_nilck' rfl) rfl rfl (wt_none' rfl) ?_
   refine px_rd' rfl (rd_field' (off := 2) rfl Try.underlying150 rfl info144 rfl) rfl rfl (wt_none' rfl) ?_
   refine px_rd' rfl (rd_load' (i := 0) (o := 2) rfl ⟨rfl, rfl, rfl, rfl⟩ rfl flat144) rfl rfl (wt_none' rfl) ?_
   obtain ⟨r41, hr41, hp⟩ := bind_some hp
   refine px_rd' rfl (rd_atr' (m := 2) rfl rfl rfl rfl hr41 Try.underlying144 info32) rfl rfl (wt_none' rfl) ?_
   refine px_rd' rfl (rd_loadr' rfl (m := 2) (i := 0) (j := 0) rfl rfl hr41 rfl rfl flat32) rfl rfl (wt_none' rfl) ?_
   refine px_rd' rfl (rd_move' rfl) rfl rfl (wt_none' rfl) ?_
   refine px_rd' rfl (rd_move' rfl) rfl rfl (wt_none' rfl) ?_
   refine px_rd' rfl (rd_bin' rfl rfl eg_int ru_add) rfl rfl (wt_none' rfl) ?_
   obtain ⟨r46, hr46, hp⟩ := bind_some hp
   refine px_rd' rfl (rd_at' (K := Kf) rfl rfl hr46 Try.underlying22 info32) rfl rfl (wt_none' rfl) ?_
   refine px_rd' rfl (rd_load_pt' rfl rfl flat32) rfl rfl (wt_none' rfl) ?_
   obtain ⟨r48, hr48, hp⟩ := bind_some hp
   refine px_ox' rfl (ox_calln' (ent_fn' Try.func94 isn94 rfl rfl) (math_Max_sim _ _ hr48 : Sx.Fn Try.prog 94 [(Vg r41), (Vg r46)] [] (fun x : Unit => (Vg r48)) (fun x => [])) (Hn := fun x : Unit => [⟨.pointer (some wa0), [(Vi a0_0), (Vl (Vs wa0_1)), (Vl (Vs wa0_2))], 150, none⟩, (Rw Kf 32 (Vs wa0_1) (x1.set (0 : Int).toNat r31)), (Rw Kf 32 (Vs wa0_2) x2)]) (fun _ => rfl) rfl rfl) rfl bs_nil (wt_none' rfl) fun ⟨⟩ => ?_
   obtain ⟨r49, hr49, hp⟩ := bind_some hp
   refine px_rd' rfl (rd_atr' (m := 2) rfl rfl rfl rfl hr49 Try.underlying144 info32) rfl rfl (wt_none' rfl) ?_
   refine px_ox' rfl (ox_storer' (m := 2) (i := 0) (j := 0) (x' := r48) rfl rfl (lv_vl rfl rfl) rfl rfl hr49 rfl rfl rfl info32 rfl (H' := [⟨.pointer (some wa0), [(Vi a0_0), (Vl (Vs wa0_1)), (Vl (Vs wa0_2))], 150, none⟩, (Rw Kf 32 (Vs wa0_1) (x1.set (0 : Int).toNat r31)), (Rw Kf 32 (Vs wa0_2) (x2.set (0 : Int).toNat r48))]) rfl) rfl bs_nil (wt_none' rfl) fun _ => ?_
   refine px_nil' ?_
   show TX E K16 _
   refine tx_k' hK16 ?_
   refine cx_seq' fun K17 hK17 => ?_
   refine cx_plan' [] [(17, 1)] [(0, 1), (1, 1), (2, 1), (3, 1), (4, 1), (5, 1), (6, 1), (7, 1), (8, 1), (9, 1), (10, 1), (11, 1), (12, 1), (13, 1), (14, 1), (15, 0), (16, 1), (17, 0)] mixed (by kernel_rfl) ?_
   refine px_rd' rfl (rd_move' rfl) rfl rfl (wt_none' rfl) ?_
   refine px_rd' rfl (rd_nilck' rfl) rfl rfl (wt_none' rfl) ?_
   refine px_rd' rfl (rd_field' (off := 1) rfl Try.underlying150 rfl info144 rfl) rfl rfl (wt_none' rfl) ?_
   refine px_rd' rfl (rd_load' (i := 0) (o := 1) rfl ⟨rfl, rfl, rfl, rfl⟩ rfl flat144) rfl rfl (wt_none' rfl) ?_
   refine px_rd' rfl (rd_move' rfl) rfl rfl (wt_none' rfl) ?_
   refine px_rd' rfl (rd_nilck' rfl) rfl rfl (wt_none' rfl) ?_
   refine px_rd' rfl (rd_field' (off := 1) rfl Try.underlying150 rfl info144 rfl) rfl rfl (wt_none' rfl) ?_
   refine px_rd' rfl (rd_load' (i := 0) (o := 1) rfl ⟨rfl, rfl, rfl, rfl⟩ rfl flat144) rfl rfl (wt_none' rfl) ?_
   obtain ⟨r58, hr58, hp⟩ := bind_some hp
   refine px_rd' rfl (rd_atr' (m := 1) rfl rfl rfl rfl hr58 Try.underlying144 info32) rfl rfl (wt_none' rfl) ?_
   refine px_rd' rfl (rd_loadr' rfl (m := 1) (i := 1) (j := 0) rfl rfl hr58 rfl rfl flat32) rfl rfl (wt_none' rfl) ?_
   refine px_rd' rfl (rd_move' rfl) rfl rfl (wt_none' rfl) ?_
   refine px_rd' rfl (rd_move' rfl) rfl rfl (wt_none' rfl) ?_
   refine px_rd' rfl (rd_bin' rfl rfl eg_int ru_add) rfl rfl (wt_none' rfl) ?_
   obtain ⟨r63, hr63, hp⟩ := bind_some hp
   refine px_rd' rfl (rd_at' (K := Kf) rfl rfl hr63 Try.underlying22 info32) rfl rfl (wt_none' rfl) ?_
   refine px_rd' rfl (rd_load_pt' rfl rfl flat32) rfl rfl (wt_none' rfl) ?_
   obtain ⟨r65, hr65, hp⟩ := bind_some hp
   refine px_ox' rfl (ox_calln' (ent_fn' Try.func93 isn93 rfl rfl) (math_Min_sim _ _ hr65 : Sx.Fn Try.prog 93 [(Vg r58), (Vg r63)] [] (fun x : Unit => (Vg r65)) (fun x => [])) (Hn := fun x : Unit => [⟨.pointer (some wa0), [(Vi a0_0), (Vl (Vs wa0_1)), (Vl (Vs wa0_2))], 150, none⟩, (Rw Kf 32 (Vs wa0_1) (x1.set (0 : Int).toNat r31)), (Rw Kf 32 (Vs wa0_2) (x2.set (0 : Int).toNat r48))]) (fun _ => rfl) rfl rfl) rfl bs_nil (wt_none' rfl) fun ⟨⟩ => ?_
   obtain ⟨r66, hr66, hp⟩ := bind_some hp
   refine px_rd' rfl (rd_atr' (m := 1) rfl rfl rfl rfl hr66 Try.underlying144 info32) rfl rfl (wt_none' rfl) ?_
   refine px_ox' rfl (ox_storer' (m := 1) (i := 1) (j := 0) (x' := r65) rfl rfl (lv_vl rfl rfl) rfl rfl hr66 rfl rfl rfl info32 rfl (H' := [⟨.pointer (some wa0), [(Vi a0_0), (Vl (Vs wa0_1)), (Vl (Vs wa0_2))], 150, none⟩, (Rw Kf 32 (Vs wa0_1) ((x1.set (0 : Int).toNat r31).set (1 : Int).toNat r65)), (Rw Kf 32 (Vs wa0_2) (x2.set (0 : Int).toNat r48))]) rfl) rfl bs_nil (wt_none' rfl) fun _ => ?_
   refine px_nil' ?_
   show TX E K17 _
   refine tx_k' hK17 ?_
   refine cx_seq' fun K18 hK18 => ?_
   refine cx_plan' [] [(17, 1)] [(0, 1), (1, 1), (2, 1), (3, 1), (4, 1), (5, 1), (6, 1), (7, 1), (8, 1), (9, 1), (10, 1), (11, 1), (12, 1), (13, 1), (14, 1), (15, 0), (16, 1), (17, 0)] mixed (by kernel_rfl) ?_
   refine px_rd' rfl (rd_move' rfl) rfl rfl (wt_none' rfl) ?_
   refine px_rd' rfl (rd_nilck' rfl) rfl rfl (wt_none' rfl) ?_
   refine px_rd' rfl (rd_field' (off := 2) rfl Try.underlying150 rfl info144 rfl) rfl rfl (wt_none' rfl) ?_
   refine px_rd' rfl (rd_load' (i := 0) (o := 2) rfl ⟨rfl, rfl, rfl, rfl⟩ rfl flat144) rfl rfl (wt_none' rfl) ?_
   refine px_rd' rfl (rd_move' rfl) rfl rfl (wt_none' rfl) ?_
   refine px_rd' rfl (rd_nilck' rfl) rfl rfl (wt_none' rfl) ?_
   refine px_rd' rfl (rd_field' (off := 2) rfl Try.underlying150 rfl info144 rfl) rfl rfl (wt_none' rfl) ?_
   refine px_rd' rfl (rd_load' (i := 0) (o := 2) rfl ⟨rfl, rfl, rfl, rfl⟩ rfl flat144) rfl rfl (wt_none' rfl) ?_
   obtain ⟨r75, hr75, hp⟩ := bind_some hp
   refine px_rd' rfl (rd_atr' (m := 2) rfl rfl rfl rfl hr75 Try.underlying144 info32) rfl rfl (wt_none' rfl) ?_
   refine px_rd' rfl (rd_loadr' rfl (m := 2) (i := 1) (j := 0) rfl rfl hr75 rfl rfl flat32) rfl rfl (wt_none' rfl) ?_
   refine px_rd' rfl (rd_move' rfl) rfl rfl (wt_none' rfl) ?_
   refine px_rd' rfl (rd_move' rfl) rfl rfl (wt_none' rfl) ?_
   refine px_rd' rfl (rd_bin' rfl rfl eg_int ru_add) rfl rfl (wt_none' rfl) ?_
   obtain ⟨r80, hr80, hp⟩ := bind_some hp
   refine px_rd' rfl (rd_at' (K := Kf) rfl rfl hr80 Try.underlying22 info32) rfl rfl (wt_none' rfl) ?_
   refine px_rd' rfl (rd_load_pt' rfl rfl flat32) rfl rfl (wt_none' rfl) ?_
   obtain ⟨r82, hr82, hp⟩ := bind_some hp
   refine px_ox' rfl (ox_calln' (ent_fn' Try.func94 isn94 rfl rfl) (math_Max_sim _ _ hr82 : Sx.Fn Try.prog 94 [(Vg r75), (Vg r80)] [] (fun x : Unit => (Vg r82)) (fun x => [])) (Hn := fun x : Unit => [⟨.pointer (some wa0), [(Vi a0_0), (Vl (Vs wa0_1)), (Vl (Vs wa0_2))], 150, none⟩, (Rw Kf 32 (Vs wa0_1) ((x1.set (0 : Int).toNat r31).set (1 : Int).toNat r65)), (Rw Kf 32 (Vs wa0_2) (x2.set (0 : Int).toNat r48))]) (fun _ => rfl) rfl rfl) rfl bs_nil (wt_none' rfl) fun ⟨⟩ => ?_
   obtain ⟨r83, hr83, hp⟩ := bind_some hp
   refine px_rd' rfl (rd_atr' (m := 2) rfl rfl rfl rfl hr83 Try.underlying144 info32) rfl rfl (wt_none' rfl) ?_
   refine px_ox' rfl (ox_storer' (m := 2) (i := 1) (j := 0) (x' := r82) rfl rfl (lv_vl rfl rfl) rfl rfl hr83 rfl rfl rfl info32 rfl (H' := [⟨.pointer (some wa0), [(Vi a0_0), (Vl (Vs wa0_1)), (Vl (Vs wa0_2))], 150, none⟩, (Rw Kf 32 (Vs wa0_1) ((x1.set (0 : Int).toNat r31).set (1 : Int).toNat r65)), (Rw Kf 32 (Vs wa0_2) ((x2.set (0 : Int).toNat r48).set (1 : Int).toNat r82))]) rfl) rfl bs_nil (wt_none' rfl) fun _ => ?_
   refine px_nil' ?_
   show TX E K18 _
   refine tx_k' hK18 ?_
   refine cx_seq' fun K19 hK19 => ?_
   refine cx_plan' [] [(17, 1)] [(0, 1), (1, 1), (2, 1), (3, 1), (4, 1), (5, 1), (6, 1), (7, 1), (8, 1), (9, 1), (10, 1), (11, 1), (12, 1), (13, 1), (14, 1), (15, 0), (16, 1), (17, 0)] mixed (by kernel_rfl) ?_
   refine px_rd' rfl (rd_move' rfl) rfl rfl (wt_none' rfl) ?_
   refine px_rd' rfl (rd_nilck' rfl) rfl rfl (wt_none' rfl) ?_
   refine px_rd' rfl (rd_field' (off := 1) rfl Try.underlying150 rfl info144 rfl) rfl rfl (wt_none' rfl) ?_
   refine px_rd' rfl (rd_load' (i := 0) (o := 1) rfl ⟨rfl, rfl, rfl, rfl⟩ rfl flat144) rfl rfl (wt_none' rfl) ?_
   refine px_rd' rfl (rd_move' rfl) rfl rfl (wt_none' rfl) ?_
   refine px_rd' rfl (rd_nilck' rfl) rfl rfl (wt_none' rfl) ?_
   refine px_rd' rfl (rd_field' (off := 1) rfl Try.underlying150 rfl info144 rfl) rfl rfl (wt_none' rfl) ?_
   refine px_rd' rfl (rd_load' (i := 0) (o := 1) rfl ⟨rfl, rfl, rfl, rfl⟩ rfl flat144) rfl rfl (wt_none' rfl) ?_
   obtain ⟨r92, hr92, hp⟩ := bind_some hp
   refine px_rd' rfl (rd_atr' (m := 1) rfl rfl rfl rfl hr92 Try.underlying144 info32) rfl rfl (wt_none' rfl) ?_
   refine px_rd' rfl (rd_loadr' rfl (m := 1) (i := 3) (j := 0) rfl rfl hr92 rfl rfl flat32) rfl rfl (wt_none' rfl) ?_
   refine px_rd' rfl (rd_move' rfl) rfl rfl (wt_none' rfl) ?_
   refine px_rd' rfl (rd_move' rfl) rfl rfl (wt_none' rfl) ?_
   refine px_rd' rfl (rd_bin' rfl rfl eg_int ru_add) rfl rfl (wt_none' rfl) ?_
   obtain ⟨r97, hr97, hp⟩ := bind_some hp
   refine px_rd' rfl (rd_at' (K := Kf) rfl rfl hr97 Try.underlying22 info32) rfl rfl (wt_none' rfl) ?_
   refine px_rd' rfl (rd_load_pt' rfl rfl flat32) rfl rfl (wt_none' rfl) ?_
   obtain ⟨r99, hr99, hp⟩ := bind_some hp
   refine px_ox' rfl (ox_calln' (ent_fn' Try.func93 isn93 rfl rfl) (math_Min_sim _ _ hr99 : Sx.Fn Try.prog 93 [(Vg r92), (Vg r97)] [] (fun x : Unit => (Vg r99)) (fun x => [])) (Hn := fun x : Unit => [⟨.pointer (some wa0), [(Vi a0_0), (Vl (Vs wa0_1)), (Vl (Vs wa0_2))], 150, none⟩, (Rw Kf 32 (Vs wa0_1) ((x1.set (0 : Int).toNat r31).set (1 : Int).toNat r65)), (Rw Kf 32 (Vs wa0_2) ((x2.set (0 : Int).toNat r48).set (1 : Int).toNat r82))]) (fun _ => rfl) rfl rfl) rfl bs_nil (wt_none' rfl) fun ⟨⟩ => ?_
   obtain ⟨r100, hr100, hp⟩ := bind_some hp
   refine px_rd' rfl (rd_atr' (m := 1) rfl rfl rfl rfl hr100 Try.underlying144 info32) rfl rfl (wt_none' rfl) ?_
   refine px_ox' rfl (ox_storer' (m := 1) (i := 3) (j := 0) (x' := r99) rfl rfl (lv_vl rfl rfl) rfl rfl hr100 rfl rfl rfl info32 rfl (H' := [⟨.pointer (some wa0), [(Vi a0_0), (Vl (Vs wa0_1)), (Vl (Vs wa0_2))], 150, none⟩, (Rw Kf 32 (Vs wa0_1) (((x1.set (0 : Int).toNat r31).set (1 : Int).toNat r65).set (3 : Int).toNat r99)), (Rw Kf 32 (Vs wa0_2) ((x2.set (0 : Int).toNat r48).set (1 : Int).toNat r82))]) rfl) rfl bs_nil (wt_none' rfl) fun _ => ?_
   refine px_nil' ?_
   show TX E K19 _
   refine tx_k' hK19 ?_
   refine cx_plan' [] [(17, 1)] [(0, 1), (1, 1), (2, 1), (3, 1), (4, 1), (5, 1), (6, 1), (7, 1), (8, 1), (9, 1), (10, 1), (11, 1), (12, 1), (13, 1), (14, 1), (15, 0), (16, 1), (17, 0)] mixed (by kernel_rfl) ?_
   refine px_rd' rfl (rd_move' rfl) rfl rfl (wt_none' rfl) ?_
   refine px_rd' rfl (rd_nilck' rfl) rfl rfl (wt_none' rfl) ?_
   refine px_rd' rfl (rd_field' (off := 2) rfl Try.underlying150 rfl info144 rfl) rfl rfl (wt_none' rfl) ?_
   refine px_rd' rfl (rd_load' (i := 0) (o := 2) rfl ⟨rfl, rfl, rfl, rfl⟩ rfl flat144) rfl rfl (wt_none' rfl) ?_
   refine px_rd' rfl (rd_move' rfl) rfl rfl (wt_none' rfl) ?_
   refine px_rd' rfl (rd_nilck' rfl) rfl rfl (wt_none' rfl) ?_
   refine px_rd' rfl (rd_field' (off := 2) rfl Try.underlying150 rfl info144 rfl) rfl rfl (wt_none' rfl) ?_
   refine px_rd' rfl (rd_load' (i := 0) (o := 2) rfl ⟨rfl, rfl, rfl, rfl⟩ rfl flat144) rfl rfl (wt_none' rfl) ?_
   obtain ⟨r109, hr109, hp⟩ := bind_some hp
   refine px_rd' rfl (rd_atr' (m := 2) rfl rfl rfl rfl hr109 Try.underlying144 info32) rfl rfl (wt_none' rfl) ?_
   refine px_rd' rfl (rd_loadr' rfl (m := 2) (i := 3) (j := 0) rfl rfl hr109 rfl rfl flat32) rfl rfl (wt_none' rfl) ?_
   refine px_rd' rfl (rd_move' rfl) rfl rfl (wt_none' rfl) ?_
   refine px_rd' rfl (rd_move' rfl) rfl rfl (wt_none' rfl) ?_
   refine px_rd' rfl (rd_bin' rfl rfl eg_int ru_add) rfl rfl (wt_none' rfl) ?_
   obtain ⟨r114, hr114, hp⟩ := bind_some hp
   refine px_rd' rfl (rd_at' (K := Kf) rfl rfl hr114 Try.underlying22 info32) rfl rfl (wt_none' rfl) ?_
   refine px_rd' rfl (rd_load_pt' rfl rfl flat32) rfl rfl (wt_none' rfl) ?_
   obtain ⟨r116, hr116, hp⟩ := bind_some hp
   refine px_ox' rfl (ox_calln' (ent_fn' Try.func94 isn94 rfl rfl) (math_Max_sim _ _ hr116 : Sx.Fn Try.prog 94 [(Vg r109), (Vg r114)] [] (fun x : Unit => (Vg r116)) (fun x => [])) (Hn := fun x : Unit => [⟨.pointer (some wa0), [(Vi a0_0), (Vl (Vs wa0_1)), (Vl (Vs wa0_2))], 150, none⟩, (Rw Kf 32 (Vs wa0_1) (((x1.set (0 : Int).toNat r31).set (1 : Int).toNat r65).set (3 : Int).toNat r99)), (Rw Kf 32 (Vs wa0_2) ((x2.set (0 : Int).toNat r48).set (1 : Int).toNat r82))]) (fun _ => rfl) rfl rfl) rfl bs_nil (wt_none' rfl) fun ⟨⟩ => ?_
   obtain ⟨r117, hr117, hp⟩ := bind_some hp
   refine px_rd' rfl (rd_atr' (m := 2) rfl rfl rfl rfl hr117 Try.underlying144 info32) rfl rfl (wt_none' rfl) ?_
   refine px_ox' rfl (ox_storer' (m := 2) (i := 3) (j := 0) (x' := r116) rfl rfl (lv_vl rfl rfl) rfl rfl hr117 rfl rfl rfl info32 rfl (H' := [⟨.pointer (some wa0), [(Vi a0_0), (Vl (Vs wa0_1)), (Vl (Vs wa0_2))], 150, none⟩, (Rw Kf 32 (Vs wa0_1) (((x1.set (0 : Int).toNat r31).set (1 : Int).toNat r65).set (3 : Int).toNat r99)), (Rw Kf 32 (Vs wa0_2) (((x2.set (0 : Int).toNat r48).set (1 : Int).toNat r82).set (3 : Int).toNat r116))]) rfl) rfl bs_nil (wt_none' rfl) fun _ => ?_
   refine px_nil' ?_
   show TX E K14 _
   refine tx_k' hK14 ?_
   refine cx_region' ?_
   refine s0 (rd_move' rfl) ?_
   refine s0 (rd_bin' rfl rfl eg_int ru_add) ?_
   refine s0 (rd_assign' rfl) ?_
   refine sx_nil' ?_
   show TX E (KY1 _) _
   exact tx_pick' [0, 1, 2] (sub_cons rfl (sub_cons rfl (sub_cons rfl (sub_cons rfl sub_nil)))) (by decide) (pick_cons rfl (pick_cons rfl (pick_cons rfl pick_nil))) (ih1 ((((x1.set (0 : Int).toNat r31).set (1 : Int).toNat r65).set (3 : Int).toNat r99), (((x2.set (0 : Int).toNat r48).set (1 : Int).toNat r82).set (3 : Int).toNat r116), (iadd .i64 x3 3)) () _ hp)
  replace hp := (br_f h3).symm.trans hp
  refine cx_exit' ?_
  replace hp := Option.some.inj hp
  subst hp
  show TX E (Zg E (Exit.exit 0) _ (Exit.exit 0)) _
  exact tx_zend' () rfl [0, 1, 2] (sub_cons rfl sub_nil) (by decide) (pick_cons rfl (pick_cons rfl (pick_cons rfl pick_nil)))
 refine zg_out fun w2 => ?_
 show TX E K2 _
 refine tx_k' hK2 ?_
 refine cr fun K20 hK20 => ?_
 refine s0 (rd_move' rfl) ?_
 refine s0 (rd_assign' rfl) ?_
 refine nk hK20 ?_
 refine cx_retc' ?_
 replace hp := Option.some.inj hp
 subst hp
 refine tx_pick' (L' := [(8, (Vp wa0))]) (H' := [⟨.pointer (some wa0), [(Vi a0_0), (Vl (Vs wa0_1)), (Vl (Vs wa0_2))], 150, none⟩, (Rw Kf 32 (Vs wa0_1) v2.1), (Rw Kf 32 (Vs wa0_2) v2.2)]) [0, 1, 2] (sub_cons rfl sub_nil) (by decide) (pick_cons rfl (pick_cons rfl (pick_cons rfl pick_nil))) ?_
 exact tx_ret1' Try.results87 rfl () (rv_tmp' rfl) (List.Sublist.refl _)

def gogeom_geom0_Stride (k : Nat) (a0_0 : Int) (a0_1 : Int) (a0_2 : List Nat) (a0_3 : Int) : Option (Int × Int × (List Nat) × Int) :=
 some (a0_0, a0_1, a0_2, a0_3)

theorem gogeom_geom0_Stride_sim {k : Nat} {wa0 : Addr} (a0_0 : Int) (a0_1 : Int) (a0_2 : List Nat) (a0_3 : Int) {out : Int × Int × (List Nat) × Int} (hp : gogeom_geom0_Stride k a0_0 a0_1 a0_2 a0_3 = some out) : Sx.Fn Try.prog 137 [(Vp wa0)] [⟨.pointer (some wa0), [(Vi a0_0), (Vi a0_1), (Sl Kf a0_2), (Vi a0_3)], 135, none⟩] (fun w : Unit => (Vi out.2.1)) (fun w => [⟨.pointer (some wa0), [(Vi out.1), (Vi out.2.1), (Sl Kf out.2.2.1), (Vi out.2.2.2)], 135, none⟩]) := by
 unfold gogeom_geom0_Stride at hp
 refine fn_of Try.func137 rfl Try.ntmps137 rfl fun E hM => ?_
 refine cr fun K1 hK1 => ?_
 refine s0 (rd_assign' rfl) ?_
 refine nk hK1 ?_
 refine cr fun K2 hK2 => ?_
 refine s0 (rd_move' rfl) ?_
 refine s0 (rd_nilck' rfl) ?_
 refine s0 (rd_field' (off := 1) rfl Try.underlying124 rfl info3 rfl) ?_
 refine s0 (rd_load' (i := 0) (o := 1) rfl ⟨rfl, rfl, rfl, rfl⟩ rfl flat3) ?_
 refine s0 (rd_assign' rfl) ?_
 refine nk hK2 ?_
 refine cx_retc' ?_
 replace hp := Option.some.inj hp
 subst hp
 refine tx_pick' (L' := [(2, (Vi a0_1))]) (H' := [⟨.pointer (some wa0), [(Vi a0_0), (Vi a0_1), (Sl Kf a0_2), (Vi a0_3)], 135, none⟩]) [0] (sub_cons rfl sub_nil) (by decide) (pick_cons rfl pick_nil) ?_
 exact tx_ret1' Try.results137 rfl () (rv_tmp' rfl) (List.Sublist.refl _)

def gogeom_Bounds_extendFlatCoords_l2s (a4 : Int) (a1 : List Nat) (x13 : Int) (k : Nat) (rec2 : ((List Nat) × (List Nat) × Int) → Option ((List Nat) × (List Nat))) (x6 : List Nat) (x7 : List Nat) (x8 : Int) : Option ((List Nat) × (List Nat)) :=
 br (decide (x8 < a4))
  ((idx x6 x8) >>= fun r37 =>
  (idx a1 (iadd .i64 x13 x8)) >>= fun r43 =>
  (math_Min k r37 r43) >>= fun r45 =>
  (idx x6 x8) >>= fun r46 =>
  (idx x7 x8) >>= fun r57 =>
  (idx a1 (iadd .i64 x13 x8)) >>= fun r63 =>
  (math_Max k r57 r63) >>= fun r65 =>
  (idx x7 x8) >>= fun r66 =>
  rec2 ((x6.set x8.toNat r45), (x7.set x8.toNat r65), (iadd .i64 x8 1)))
  (some (x6, x7))
def gogeom_Bounds_extendFlatCoords_l2 (a4 : Int) (a1 : List Nat) (x13 : Int) : Nat → ((List Nat) × (List Nat) × Int) → Option ((List Nat) × (List Nat))
 | 0, _ => none
 | k + 1, v => gogeom_Bounds_extendFlatCoords_l2s a4 a1 x13 k (gogeom_Bounds_extendFlatCoords_l2 a4 a1 x13 k) v.1 v.2.1 v.2.2
def gogeom_Bounds_extendFlatCoords_l3s (a3 : Int) (a4 : Int) (a1 : List Nat) (k : Nat) (rec3 : ((List Nat) × (List Nat) × Int) → Option ((List Nat) × (List Nat))) (x11 : List Nat) (x12 : List Nat) (x13 : Int) : Option ((List Nat) × (List Nat)) :=
 br (decide (x13 < a3))
  ((gogeom_Bounds_extendFlatCoords_l2 a4 a1 x13 k (x11, x12, 0)) >>= fun v5 =>
  rec3 (v5.1, v5.2, (iadd .i64 x13 a4)))
  (some (x11, x12))
def gogeom_Bounds_extendFlatCoords_l3 (a3 : Int) (a4 : Int) (a1 : List Nat) : Nat → ((List Nat) × (List Nat) × Int) → Option ((List Nat) × (List Nat))
 | 0, _ => none
 | k + 1, v => gogeom_Bounds_extendFlatCoords_l3s a3 a4 a1 k (gogeom_Bounds_extendFlatCoords_l3 a3 a4 a1 k) v.1 v.2.1 v.2.2
def gogeom_Bounds_extendFlatCoords (k : Nat) (a0_0 : Int) (a0_1 : List Nat) (a0_2 : List Nat) (a1 : List Nat) (a2 : Int) (a3 : Int) (a4 : Int) : Option (Int × (List Nat) × (List Nat)) :=
 (gogeom_Bounds_extendStride k a0_0 a0_1 a0_2 a4) >>= fun r15 =>
 (gogeom_Bounds_extendFlatCoords_l3 a3 a4 a1 k (r15.2.1, r15.2.2, a2)) >>= fun v6 =>
 some (r15.1, v6.1, v6.2)

theorem gogeom_Bounds_extendFlatCoords_sim {k : Nat} {wa0 : Addr} {wa0_1 : Gs} {wa0_2 : Gs} (a0_0 : Int) (a0_1 : List Nat) (a0_2 : List Nat) (a1 : List Nat) (a2 : Int) (a3 : Int) (a4 : Int) {out : Int × (List Nat) × (List Nat)} (hp : gogeom_Bounds_extendFlatCoords k a0_0 a0_1 a0_2 a1 a2 a3 a4 = some out) : Sx.Fn Try.prog 88 [(Vp wa0), (Sl Kf a1), (Vi a2), (Vi a3), (Vi a4)] [⟨.pointer (some wa0), [(Vi a0_0), (Vl (Vs wa0_1)), (Vl (Vs wa0_2))], 150, none⟩, (Rw Kf 32 (Vs wa0_1) a0_1), (Rw Kf 32 (Vs wa0_2) a0_2)] (fun w : Gs × Gs => (Vp wa0)) (fun w => [⟨.pointer (some wa0), [(Vi out.1), (Vl (Vs w.1)), (Vl (Vs w.2))], 150, none⟩, (Rw Kf 32 (Vs w.1) out.2.1), (Rw Kf 32 (Vs w.2) out.2.2)]) := by
 unfold gogeom_Bounds_extendFlatCoords at hp
 refine fn_of Try.func88 rfl Try.ntmps88 rfl fun E hM => ?_
 refine cr fun K1 hK1 => ?_
 refine s0 (rd_assign' rfl) ?_
 refine nk hK1 ?_
 refine cr fun K2 hK2 => ?_
 refine s0 (rd_move' rfl) ?_
 refine s0 (rd_move' rfl) ?_
 obtain ⟨r15, hr15, hp⟩ := bind_some hp
 refine sx_ox' (ox_callg' (ent_fn' Try.func92 isn92 rfl rfl) (gogeom_Bounds_extendStride_sim _ _ _ _ hr15 : Sx.Fn Try.prog 92 [(Vp wa0), (Vi a4)] [⟨.pointer (some wa0), [(Vi a0_0), (Vl (Vs wa0_1)), (Vl (Vs wa0_2))], 150, none⟩, (Rw Kf 32 (Vs wa0_1) a0_1), (Rw Kf 32 (Vs wa0_2) a0_2)] (fun x : Gs × Gs => (Vl (.tuple #[]))) (fun x => [⟨.pointer (some wa0), [(Vi r15.1), (Vl (Vs x.1)), (Vl (Vs x.2))], 150, none⟩, (Rw Kf 32 (Vs x.1) r15.2.1), (Rw Kf 32 (Vs x.2) r15.2.2)])) [0, 1, 2] [] (by decide) (pick_cons rfl (pick_cons rfl (pick_cons rfl pick_nil))) pick_nil (Hn := fun x : Gs × Gs => [⟨.pointer (some wa0), [(Vi r15.1), (Vl (Vs x.1)), (Vl (Vs x.2))], 150, none⟩, (Rw Kf 32 (Vs x.1) r15.2.1), (Rw Kf 32 (Vs x.2) r15.2.2)]) (fun _ => rfl) rfl rfl) (wt_none' rfl) fun ⟨g15, gz1⟩ => ?_
 refine nk hK2 ?_
 refine cx_seq' fun K3 hK3 => ?_
 refine cr fun K4 hK4 => ?_
 refine s0 (rd_move' rfl) ?_
 refine s0 (rd_assign' rfl) ?_
 refine nk hK4 ?_
 refine cx_block' ?_
 obtain ⟨v6, hy3, hp⟩ := bind_some hp
 refine cx_loopg' (F := gogeom_Bounds_extendFlatCoords_l3 a3 a4 a1) (G := fun k R v => gogeom_Bounds_extendFlatCoords_l3s a3 a4 a1 k R v.1 v.2.1 v.2.2) (x := (r15.2.1, r15.2.2, a2)) (gh := ()) (fun (v3 : (List Nat) × (List Nat) × Int) (w3 : Unit) => (⟨69, [], [(0, (Vp wa0)), (1, (Sl Kf a1)), (3, (Vi a3)), (4, (Vi a4)), (11, (Vi v3.2.2))], [⟨.pointer (some wa0), [(Vi r15.1), (Vl (Vs g15)), (Vl (Vs gz1))], 150, none⟩, (Rw Kf 32 (Vs g15) v3.1), (Rw Kf 32 (Vs gz1) v3.2.1)]⟩ : St)) (fun (v6 : (List Nat) × (List Nat)) => Zg E (Exit.exit 0) (fun (w6 : Unit) => (⟨69, [], [(0, (Vp wa0))], [⟨.pointer (some wa0), [(Vi r15.1), (Vl (Vs g15)), (Vl (Vs gz1))], 150, none⟩, (Rw Kf 32 (Vs g15) v6.1), (Rw Kf 32 (Vs gz1) v6.2)]⟩ : St))) (fun _ => rfl) (fun _ _ => rfl) ?_ hy3 (tx_to' rfl [0, 1, 2] (sub_cons rfl (sub_cons rfl (sub_cons rfl (sub_cons rfl (sub_cons rfl sub_nil))))) (by decide) (pick_cons rfl (pick_cons rfl (pick_cons rfl pick_nil)))) ?_
 ·clear hp hy3
  clear v6
  intro k rec3 KY3 ih3
  rintro ⟨x11, x12, x13⟩ ⟨⟩ y5 hp
  replace hp : gogeom_Bounds_extendFlatCoords_l3s a3 a4 a1 k rec3 x11 x12 x13 = some y5 := hp
  unfold gogeom_Bounds_extendFlatCoords_l3s at hp
  refine cx_seq' fun K19 hK19 => ?_
  refine cr fun K20 hK20 => ?_
  refine s0 (rd_move' rfl) ?_
  refine s0 (rd_move' rfl) ?_
  refine s0 (rd_bin' rfl rfl eg_int ru_lss) ?_
  refine nk hK20 ?_
  refine cx_cond' rfl (fun h6 => ?_) (fun h6 => ?_)
  ·replace hp := (br_t h6).symm.trans hp
   refine cx_skip' ?_
   show TX E K19 _
   refine tx_k' hK19 ?_
   refine cx_seq' fun K21 hK21 => ?_
   refine cx_block' ?_
   refine cr fun K22 hK22 => ?_
   refine s0 (rd_move' rfl) ?_
   refine s0 (rd_move' rfl) ?_
   refine nk hK22 ?_
   refine cx_block' ?_
   obtain ⟨v5, hy2, hp⟩ := bind_some hp
   refine cx_loopg' (F := gogeom_Bounds_extendFlatCoords_l2 a4 a1 x13) (G := fun k R v => gogeom_Bounds_extendFlatCoords_l2s a4 a1 x13 k R v.1 v.2.1 v.2.2) (x := (x11, x12, 0)) (gh := ()) (fun (v4 : (List Nat) × (List Nat) × Int) (w4 : Unit) => (⟨69, [], [(0, (Vp wa0)), (1, (Sl Kf a1)), (3, (Vi a3)), (4, (Vi a4)), (11, (Vi x13)), (23, (Vi a4)), (24, (Vi v4.2.2))], [⟨.pointer (some wa0), [(Vi r15.1), (Vl (Vs g15)), (Vl (Vs gz1))], 150, none⟩, (Rw Kf 32 (Vs g15) v4.1), (Rw Kf 32 (Vs gz1) v4.2.1)]⟩ : St)) (fun (v5 : (List Nat) × (List Nat)) => Zg E (Exit.exit 2) (fun (w5 : Unit) => (⟨69, [], [(0, (Vp wa0)), (1, (Sl Kf a1)), (3, (Vi a3)), (4, (Vi a4)), (11, (Vi x13))], [⟨.pointer (some wa0), [(Vi r15.1), (Vl (Vs g15)), (Vl (Vs gz1))], 150, none⟩, (Rw Kf 32 (Vs g15) v5.1), (Rw Kf 32 (Vs gz1) v5.2)]⟩ : St))) (fun _ => rfl) (fun _ _ => rfl) ?_ hy2 (tx_to' rfl [0, 1, 2] (sub_cons rfl (sub_cons rfl (sub_cons rfl (sub_cons rfl (sub_cons rfl (sub_cons rfl (sub_cons rfl sub_nil))))))) (by decide) (pick_cons rfl (pick_cons rfl (pick_cons rfl pick_nil)))) ?_
   ·clear hp hy2
    clear v5
    intro k rec2 KY2 ih2
    rintro ⟨x6, x7, x8⟩ ⟨⟩ y4 hp
    replace hp : gogeom_Bounds_extendFlatCoords_l2s a4 a1 x13 k rec2 x6 x7 x8 = some y4 := hp
    unfold gogeom_Bounds_extendFlatCoords_l2s at hp
    refine cr fun K28 hK28 => ?_
    refine s0 (rd_bin' rfl rfl eg_int ru_lss) ?_
    refine nk hK28 ?_
    refine cx_seq' fun K29 hK29 => ?_
    refine cx_cond' rfl (fun h9 => ?_) (fun h9 => ?_)
    ·replace hp := (br_t h9).symm.trans hp
     refine cx_skip' ?_
     show TX E K29 _
     refine tx_k' hK29 ?_
     refine cx_seq' fun K30 hK30 => ?_
     refine cx_block' ?_
     refine cr fun K31 hK31 => ?_
     refine s0 (rd_move' rfl) ?_
     refine s0 (rd_assign' rfl) ?_
     refine nk hK31 ?_
     refine cx_seq' fun K32 hK32 => ?_
     refine cx_plan' [] [(20, 1)] [(0, 1), (1, 1), (2, 1), (3, 1), (4, 1), (5, 1), (6, 1), (7, 1), (8, 1), (9, 1), (10, 1), (11, 1), (12, 1), (13, 1), (14, 1), (15, 1), (16, 1), (17, 1), (18, 0), (19, 1), (20, 0)] mixed (by kernel_rfl) ?_
     refine px_rd' rfl (rd_move' rfl) rfl rfl (wt_none' rfl) ?_
     refine px_rd' rfl (rd_nilck' rfl) rfl rfl (wt_none' rfl) ?_
     refine px_rd' rfl (rd_field' (off := 1) rfl Try.underlying150 rfl info144 rfl) rfl rfl (wt_none' rfl) ?_
     refine px_rd' rfl (rd_load' (i := 0) (o := 1) rfl ⟨rfl, rfl, rfl, rfl⟩ rfl flat144) rfl rfl (wt_none' rfl) ?_
     refine px_rd' rfl (rd_move' rfl) rfl rfl (wt_none' rfl) ?_
     refine px_rd' rfl (rd_move' rfl) rfl rfl (wt_none' rfl) ?_
     refine px_rd' rfl (rd_nilck' rfl) rfl rfl (wt_none' rfl) ?_
     refine px_rd' rfl (rd_field' (off := 1) rfl Try.underlying150 rfl info144 rfl) rfl rfl (wt_none' rfl) ?_
     refine px_rd' rfl (rd_load' (i := 0) (o := 1) rfl ⟨rfl, rfl, rfl, rfl⟩ rfl flat144) rfl rfl (wt_none' rfl) ?_
     refine px_rd' rfl (rd_move' rfl) rfl rfl (wt_none' rfl) ?_
     obtain ⟨r37, hr37, hp⟩ := bind_some hp
     refine px_rd' rfl (rd_atr' (m := 1) rfl rfl rfl rfl hr37 Try.underlying144 info32) rfl rfl (wt_none' rfl) ?_
     refine px_rd' rfl (rd_loadr' rfl (m := 1) (i := x8) (j := 0) rfl rfl hr37 rfl rfl flat32) rfl rfl (wt_none' rfl) ?_
     refine px_rd' rfl (rd_move' rfl) rfl rfl (wt_none' rfl) ?_
     refine px_rd' rfl (rd_move' rfl) rfl rfl (wt_none' rfl) ?_
     refine px_rd' rfl (rd_move' rfl) rfl rfl (wt_none' rfl) ?_
     refine px_rd' rfl (rd_bin' rfl rfl eg_int ru_add) rfl rfl (wt_none' rfl) ?_
     obtain ⟨r43, hr43, hp⟩ := bind_some hp
     refine px_rd' rfl (rd_at' (K := Kf) rfl rfl hr43 Try.underlying22 info32) rfl rfl (wt_none' rfl) ?_
     refine px_rd' rfl (rd_load_pt' rfl rfl flat32) rfl rfl (wt_none' rfl) ?_
     obtain ⟨r45, hr45, hp⟩ := bind_some hp
     refine px_ox' rfl (ox_calln' (ent_fn' Try.func93 isn93 rfl rfl) (math_Min_sim _ _ hr45 : Sx.Fn Try.prog 93 [(Vg r37), (Vg r43)] [] (fun x : Unit => (Vg r45)) (fun x => [])) (Hn := fun x : Unit => [⟨.pointer (some wa0), [(Vi r15.1), (Vl (Vs g15)), (Vl (Vs gz1))], 150, none⟩, (Rw Kf 32 (Vs g15) x6), (Rw Kf 32 (Vs gz1) x7)]) (fun _ => rfl) rfl rfl) rfl bs_nil (wt_none' rfl) fun ⟨⟩ => ?_
     obtain ⟨r46, hr46, hp⟩ := bind_some hp
     refine px_rd' rfl (rd_atr' (m := 1) rfl rfl rfl rfl hr46 Try.underlying144 info32) rfl rfl (wt_none' rfl) ?_
     refine px_ox' rfl (ox_storer' (m := 1) (i := x8) (j := 0) (x' := r45) rfl rfl (lv_vl rfl rfl) rfl rfl hr46 rfl rfl rfl info32 rfl (H' := [⟨.pointer (some wa0), [(Vi r15.1), (Vl (Vs g15)), (Vl (Vs gz1))], 150, none⟩, (Rw Kf 32 (Vs g15) (x6.set x8.toNat r45)), (Rw Kf 32 (Vs gz1) x7)]) rfl) rfl bs_nil (wt_none' rfl) fun _ => ?_
     refine px_nil' ?_
     show TX E K32 _
     refine tx_k' hK32 ?_
     refine cx_plan' [] [(20, 1)] [(0, 1), (1, 1), (2, 1), (3, 1), (4, 1), (5, 1), (6, 1), (7, 1), (8, 1), (9, 1), (10, 1), (11, 1), (12, 1), (13, 1), (14, 1), (15, 1), (16, 1), (17, 1), (18, 0), (19, 1), (20, 0)] mixed (by kernel_rfl) ?_
     refine px_rd' rfl (rd_move' rfl) rfl rfl (wt_none' rfl) ?_
     refine px_rd' rfl (rd_nilck' rfl) rfl rfl (wt_none' rfl) ?_
     refine px_rd' rfl (rd_field' (off := 2) rfl Try.underlying150 rfl info144 rfl) rfl rfl (wt_none' rfl) ?_
     refine px_rd' rfl (rd_load' (i := 0) (o := 2) rfl ⟨rfl, rfl, rfl, rfl⟩ rfl flat144) rfl rfl (wt_none' rfl) ?_
     refine px_rd' rfl (rd_move' rfl) rfl rfl (wt_none' rfl) ?_
     refine px_rd' rfl (rd_move' rfl) rfl rfl (wt_none' rfl) ?_
     refine px_rd' rfl (rd_nilck' rfl) rfl rfl (wt_none' rfl) ?_
     refine px_rd' rfl (rd_field' (off := 2) rfl Try.underlying150 rfl info144 rfl) rfl rfl (wt_none' rfl) ?_
     refine px_rd' rfl (rd_load' (i := 0) (o := 2) rfl ⟨rfl, rfl, rfl, rfl⟩ rfl flat144) rfl rfl (wt_none' rfl) ?_
     refine px_rd' rfl (rd_move' rfl) rfl rfl (wt_none' rfl) ?_
     obtain ⟨r57, hr57, hp⟩ := bind_some hp
     refine px_rd' rfl (rd_atr' (m := 2) rfl rfl rfl rfl hr57 Try.underlying144 info32) rfl rfl (wt_none' rfl) ?_
     refine px_rd' rfl (rd_loadr' rfl (m := 2) (i := x8) (j := 0) rfl rfl hr57 rfl rfl flat32) rfl rfl (wt_none' rfl) ?_
     refine px_rd' rfl (rd_move' rfl) rfl rfl (wt_none' rfl) ?_
     refine px_rd' rfl (rd_move' rfl) rfl rfl (wt_none' rfl) ?_
     refine px_rd' rfl (rd_move' rfl) rfl rfl (wt_none' rfl) ?_
     refine px_rd' rfl (rd_bin' rfl rfl eg_int ru_add) rfl rfl (wt_none' rfl) ?_
     obtain ⟨r63, hr63, hp⟩ := bind_some hp
     refine px_rd' rfl (rd_at' (K := Kf) rfl rfl hr63 Try.underlying22 info32) rfl rfl (wt_none' rfl) ?_
     refine px_rd' rfl (rd_load_pt' rfl rfl flat32) rfl rfl (wt_none' rfl) ?_
     obtain ⟨r65, hr65, hp⟩ := bind_some hp
     refine px_ox' rfl (ox_calln' (ent_fn' Try.func94 isn94 rfl rfl) (math_Max_sim _ _ hr65 : Sx.Fn Try.prog 94 [(Vg r57), (Vg r63)] [] (fun x : Unit => (Vg r65)) (fun x => [])) (Hn := fun x : Unit => [⟨.pointer (some wa0), [(Vi r15.1), (Vl (Vs g15)), (Vl (Vs gz1))], 150, none⟩, (Rw Kf 32 (Vs g15) (x6.set x8.toNat r45)), (Rw Kf 32 (Vs gz1) x7)]) (fun _ => rfl) rfl rfl) rfl bs_nil (wt_none' rfl) fun ⟨⟩ => ?_
     obtain ⟨r66, hr66, hp⟩ := bind_some hp
     refine px_rd' rfl (rd_atr' (m := 2) rfl rfl rfl rfl hr66 Try.underlying144 info32) rfl rfl (wt_none' rfl) ?_
     refine px_ox' rfl (ox_storer' (m := 2) (i := x8) (j := 0) (x' := r65) rfl rfl (lv_vl rfl rfl) rfl rfl hr66 rfl rfl rfl info32 rfl (H' := [⟨.pointer (some wa0), [(Vi r15.1), (Vl (Vs g15)), (Vl (Vs gz1))], 150, none⟩, (Rw Kf 32 (Vs g15) (x6.set x8.toNat r45)), (Rw Kf 32 (Vs gz1) (x7.set x8.toNat r65))]) rfl) rfl bs_nil (wt_none' rfl) fun _ => ?_
     refine px_nil' ?_
     show TX E K30 _
     refine tx_k' hK30 ?_
     refine cx_region' ?_
     refine s0 (rd_bin' rfl rfl eg_int ru_add) ?_
     refine s0 (rd_move' rfl) ?_
     refine sx_nil' ?_
     show TX E (KY2 _) _
     exact tx_pick' [0, 1, 2] (sub_cons rfl (sub_cons rfl (sub_cons rfl (sub_cons rfl (sub_cons rfl (sub_cons rfl (sub_cons rfl sub_nil))))))) (by decide) (pick_cons rfl (pick_cons rfl (pick_cons rfl pick_nil))) (ih2 ((x6.set x8.toNat r45), (x7.set x8.toNat r65), (iadd .i64 x8 1)) () _ hp)
    replace hp := (br_f h9).symm.trans hp
    refine cx_exit' ?_
    replace hp := Option.some.inj hp
    subst hp
    show TX E (Zg E (Exit.exit 2) _ (Exit.exit 2)) _
    exact tx_zend' () rfl [0, 1, 2] (sub_cons rfl (sub_cons rfl (sub_cons rfl (sub_cons rfl (sub_cons rfl sub_nil))))) (by decide) (pick_cons rfl (pick_cons rfl (pick_cons rfl pick_nil)))
   refine zg_out fun w5 => ?_
   show TX E K21 _
   refine tx_k' hK21 ?_
   refine cx_region' ?_
   refine s0 (rd_move' rfl) ?_
   refine s0 (rd_move' rfl) ?_
   refine s0 (rd_bin' rfl rfl eg_int ru_add) ?_
   refine s0 (rd_assign' rfl) ?_
   refine sx_nil' ?_
   show TX E (KY3 _) _
   exact tx_pick' [0, 1, 2] (sub_cons rfl (sub_cons rfl (sub_cons rfl (sub_cons rfl (sub_cons rfl sub_nil))))) (by decide) (pick_cons rfl (pick_cons rfl (pick_cons rfl pick_nil))) (ih3 (v5.1, v5.2, (iadd .i64 x13 a4)) () _ hp)
  replace hp := (br_f h6).symm.trans hp
  refine cx_exit' ?_
  replace hp := Option.some.inj hp
  subst hp
  show TX E (Zg E (Exit.exit 0) _ (Exit.exit 0)) _
  exact tx_zend' () rfl [0, 1, 2] (sub_cons rfl sub_nil) (by decide) (pick_cons rfl (pick_cons rfl (pick_cons rfl pick_nil)))
 refine zg_out fun w6 => ?_
 show TX E K3 _
 refine tx_k' hK3 ?_
 refine cr fun K33 hK33 => ?_
 refine s0 (rd_move' rfl) ?_
 refine s0 (rd_assign' rfl) ?_
 refine nk hK33 ?_
 refine cx_retc' ?_
 replace hp := Option.some.inj hp
 subst hp
 refine tx_pick' (L' := [(10, (Vp wa0))]) (H' := [⟨.pointer (some wa0), [(Vi r15.1), (Vl (Vs g15)), (Vl (Vs gz1))], 150, none⟩, (Rw Kf 32 (Vs g15) v6.1), (Rw Kf 32 (Vs gz1) v6.2)]) [0, 1, 2] (sub_cons rfl sub_nil) (by decide) (pick_cons rfl (pick_cons rfl (pick_cons rfl pick_nil))) ?_
 exact tx_ret1' Try.results88 rfl (g15, gz1) (rv_tmp' rfl) (List.Sublist.refl _)

def gogeom_Bounds_Extend_j1 (k : Nat) (r8 : Int × (List Nat) × (List Nat)) (x1 : Int) (x2 : Int) (x3 : List Nat) (x4 : Int) (x5 : Bool) : Option (Int × (List Nat) × (List Nat) × Int × Int × (List Nat) × Int) :=
 br x5
  ((gogeom_geom0_FlatCoords k x1 x2 x3 x4) >>= fun r21 =>
  (gogeom_geom0_FlatCoords k r21.1 r21.2.1 r21.2.2.1 r21.2.2.2) >>= fun r23 =>
  (gogeom_Bounds_extendXYZMFlatCoordsWithXYM k r8.1 r8.2.1 r8.2.2 r21.2.2.1 0 (r23.2.2.1.length : Int)) >>= fun r25 =>
  some (r25.1, r25.2.1, r25.2.2, r23.1, r23.2.1, r23.2.2.1, r23.2.2.2))
  ((gogeom_geom0_FlatCoords k x1 x2 x3 x4) >>= fun r28 =>
  (gogeom_geom0_FlatCoords k r28.1 r28.2.1 r28.2.2.1 r28.2.2.2) >>= fun r30 =>
  (gogeom_geom0_Stride k r30.1 r30.2.1 r30.2.2.1 r30.2.2.2) >>= fun r33 =>
  (gogeom_Bounds_extendFlatCoords k r8.1 r8.2.1 r8.2.2 r28.2.2.1 0 (r30.2.2.1.length : Int) r33.2.1) >>= fun r34 =>
  some (r34.1, r34.2.1, r34.2.2, r33.1, r33.2.1, r33.2.2.1, r33.2.2.2))
def gogeom_Bounds_Extend (k : Nat) (a0_0 : Int) (a0_1 : List Nat) (a0_2 : List Nat) (a1_0 : Int) (a1_1 : Int) (a1_2 : List Nat) (a1_3 : Int) : Option (Int × (List Nat) × (List Nat) × Int × Int × (List Nat) × Int) :=
 (gogeom_geom0_Layout k a1_0 a1_1 a1_2 a1_3) >>= fun r7 =>
 (gogeom_Bounds_extendLayout k a0_0 a0_1 a0_2 r7.1) >>= fun r8 =>
 br (decide (r8.1 = 4))
  ((gogeom_geom0_Layout k r7.1 r7.2.1 r7.2.2.1 r7.2.2.2) >>= fun r16 =>
  gogeom_Bounds_Extend_j1 k r8 r16.1 r16.2.1 r16.2.2.1 r16.2.2.2 (decide (r16.1 = 3)))
  (gogeom_Bounds_Extend_j1 k r8 r7.1 r7.2.1 r7.2.2.1 r7.2.2.2 false)

theorem gogeom_Bounds_Extend_sim {k : Nat} {wa0 : Addr} {wa0_1 : Gs} {wa0_2 : Gs} {wa1 : Addr} (a0_0 : Int) (a0_1 : List Nat) (a0_2 : List Nat) (a1_0 : Int) (a1_1 : Int) (a1_2 : List Nat) (a1_3 : Int) {out : Int × (List Nat) × (List Nat) × Int × Int × (List Nat) × Int} (hp : gogeom_Bounds_Extend k a0_0 a0_1 a0_2 a1_0 a1_1 a1_2 a1_3 = some out) : Sx.Fn Try.prog 55 [(Vp wa0), (If 72 (Vp wa1))] [⟨.pointer (some wa0), [(Vi a0_0), (Vl (Vs wa0_1)), (Vl (Vs wa0_2))], 150, none⟩, (Rw Kf 32 (Vs wa0_1) a0_1), (Rw Kf 32 (Vs wa0_2) a0_2), ⟨.pointer (some wa1), [(Vi a1_0), (Vi a1_1), (Sl Kf a1_2), (Vi a1_3)], 135, none⟩] (fun w : Gs × Gs => (Vp wa0)) (fun w => [⟨.pointer (some wa0), [(Vi out.1), (Vl (Vs w.1)), (Vl (Vs w.2))], 150, none⟩, (Rw Kf 32 (Vs w.1) out.2.1), (Rw Kf 32 (Vs w.2) out.2.2.1), ⟨.pointer (some wa1), [(Vi out.2.2.2.1), (Vi out.2.2.2.2.1), (Sl Kf out.2.2.2.2.2.1), (Vi out.2.2.2.2.2.2)], 135, none⟩]) := by
 unfold gogeom_Bounds_Extend at hp
 refine fn_of Try.func55 rfl Try.ntmps55 rfl fun E hM => ?_
 refine cr fun K1 hK1 => ?_
 refine s0 (rd_assign' rfl) ?_
 refine nk hK1 ?_
 refine cr fun K2 hK2 => ?_
 refine s0 (rd_move' rfl) ?_
 refine s0 (rd_move' rfl) ?_
 obtain ⟨r7, hr7, hp⟩ := bind_some hp
 refine sx_ox' (ox_callg' (ent_inv' rfl rfl (inv_ptr0 (inv72_Layout _))) (gogeom_geom0_Layout_sim _ _ _ _ hr7 : Sx.Fn Try.prog 134 [(Vp wa1)] [⟨.pointer (some wa1), [(Vi a1_0), (Vi a1_1), (Sl Kf a1_2), (Vi a1_3)], 135, none⟩] (fun x : Unit => (Vi r7.1)) (fun x => [⟨.pointer (some wa1), [(Vi r7.1), (Vi r7.2.1), (Sl Kf r7.2.2.1), (Vi r7.2.2.2)], 135, none⟩])) [3] [0, 1, 2] (by decide) (pick_cons rfl pick_nil) (pick_cons rfl (pick_cons rfl (pick_cons rfl pick_nil))) (Hn := fun x : Unit => [⟨.pointer (some wa1), [(Vi r7.1), (Vi r7.2.1), (Sl Kf r7.2.2.1), (Vi r7.2.2.2)], 135, none⟩, ⟨.pointer (some wa0), [(Vi a0_0), (Vl (Vs wa0_1)), (Vl (Vs wa0_2))], 150, none⟩, (Rw Kf 32 (Vs wa0_1) a0_1), (Rw Kf 32 (Vs wa0_2) a0_2)]) (fun _ => rfl) rfl rfl) (wt_none' rfl) fun ⟨⟩ => ?_
 obtain ⟨r8, hr8, hp⟩ := bind_some hp
 refine sx_ox' (ox_callg' (ent_fn' Try.func86 isn86 rfl rfl) (gogeom_Bounds_extendLayout_sim _ _ _ _ hr8 : Sx.Fn Try.prog 86 [(Vp wa0), (Vi r7.1)] [⟨.pointer (some wa0), [(Vi a0_0), (Vl (Vs wa0_1)), (Vl (Vs wa0_2))], 150, none⟩, (Rw Kf 32 (Vs wa0_1) a0_1), (Rw Kf 32 (Vs wa0_2) a0_2)] (fun x : Gs × Gs => (Vl (.tuple #[]))) (fun x => [⟨.pointer (some wa0), [(Vi r8.1), (Vl (Vs x.1)), (Vl (Vs x.2))], 150, none⟩, (Rw Kf 32 (Vs x.1) r8.2.1), (Rw Kf 32 (Vs x.2) r8.2.2)])) [1, 2, 3] [0] (by decide) (pick_cons rfl (pick_cons rfl (pick_cons rfl pick_nil))) (pick_cons rfl pick_nil) (Hn := fun x : Gs × Gs => [⟨.pointer (some wa0), [(Vi r8.1), (Vl (Vs x.1)), (Vl (Vs x.2))], 150, none⟩, (Rw Kf 32 (Vs x.1) r8.2.1), (Rw Kf 32 (Vs x.2) r8.2.2), ⟨.pointer (some wa1), [(Vi r7.1), (Vi r7.2.1), (Sl Kf r7.2.2.1), (Vi r7.2.2.2)], 135, none⟩]) (fun _ => rfl) rfl rfl) (wt_none' rfl) fun ⟨g8, gz1⟩ => ?_
 refine nk hK2 ?_
 refine cx_seq' fun K3 hK3 => ?_
 refine cr fun K4 hK4 => ?_
 refine s0 (rd_move' rfl) ?_
 refine s0 (rd_nilck' rfl) ?_
 refine s0 (rd_field0' rfl Try.underlying150 rfl info61 rfl) ?_
 refine s0 (rd_load' (i := 0) (o := 0) rfl ⟨rfl, rfl, rfl, rfl⟩ rfl flat61) ?_
 refine s0 (rd_bin' rfl rfl eg_int ru_eql) ?_
 refine s0 (rd_move' rfl) ?_
 refine sx_cutn' 4 (fun (v1 : Int × Int × (List Nat) × Int × Bool) => (⟨35, [], [(0, (Vp wa0)), (1, (If 72 (Vp wa1))), (18, (Vb v1.2.2.2.2))], [⟨.pointer (some wa0), [(Vi r8.1), (Vl (Vs g8)), (Vl (Vs gz1))], 150, none⟩, (Rw Kf 32 (Vs g8) r8.2.1), (Rw Kf 32 (Vs gz1) r8.2.2), ⟨.pointer (some wa1), [(Vi v1.1), (Vi v1.2.1), (Sl Kf v1.2.2.1), (Vi v1.2.2.2.1)], 135, none⟩]⟩ : St)) (fun (v1 : Int × Int × (List Nat) × Int × Bool) => gogeom_Bounds_Extend_j1 k r8 v1.1 v1.2.1 v1.2.2.1 v1.2.2.2.1 v1.2.2.2.2 = some out) ?_ ?_
 ·rintro ⟨x1, x2, x3, x4, x5⟩ hp
  replace hp : gogeom_Bounds_Extend_j1 k r8 x1 x2 x3 x4 x5 = some out := hp
  unfold gogeom_Bounds_Extend_j1 at hp
  refine nk hK4 ?_
  refine cx_cond' rfl (fun h2 => ?_) (fun h2 => ?_)
  ·replace hp := (br_t h2).symm.trans hp
   refine cr fun K6 hK6 => ?_
   refine s0 (rd_move' rfl) ?_
   refine s0 (rd_move' rfl) ?_
   obtain ⟨r21, hr21, hp⟩ := bind_some hp
   refine sx_ox' (ox_callg' (ent_inv' rfl rfl (inv_ptr0 (inv72_FlatCoords _))) (gogeom_geom0_FlatCoords_sim _ _ _ _ hr21 : Sx.Fn Try.prog 133 [(Vp wa1)] [⟨.pointer (some wa1), [(Vi x1), (Vi x2), (Sl Kf x3), (Vi x4)], 135, none⟩] (fun x : Unit => (Sl Kf r21.2.2.1)) (fun x => [⟨.pointer (some wa1), [(Vi r21.1), (Vi r21.2.1), (Sl Kf r21.2.2.1), (Vi r21.2.2.2)], 135, none⟩])) [3] [0, 1, 2] (by decide) (pick_cons rfl pick_nil) (pick_cons rfl (pick_cons rfl (pick_cons rfl pick_nil))) (Hn := fun x : Unit => [⟨.pointer (some wa1), [(Vi r21.1), (Vi r21.2.1), (Sl Kf r21.2.2.1), (Vi r21.2.2.2)], 135, none⟩, ⟨.pointer (some wa0), [(Vi r8.1), (Vl (Vs g8)), (Vl (Vs gz1))], 150, none⟩, (Rw Kf 32 (Vs g8) r8.2.1), (Rw Kf 32 (Vs gz1) r8.2.2)]) (fun _ => rfl) rfl rfl) (wt_none' rfl) fun ⟨⟩ => ?_
   refine s0 (rd_move' rfl) ?_
   obtain ⟨r23, hr23, hp⟩ := bind_some hp
   refine sx_ox' (ox_callg' (ent_inv' rfl rfl (inv_ptr0 (inv72_FlatCoords _))) (gogeom_geom0_FlatCoords_sim _ _ _ _ hr23 : Sx.Fn Try.prog 133 [(Vp wa1)] [⟨.pointer (some wa1), [(Vi r21.1), (Vi r21.2.1), (Sl Kf r21.2.2.1), (Vi r21.2.2.2)], 135, none⟩] (fun x : Unit => (Sl Kf r23.2.2.1)) (fun x => [⟨.pointer (some wa1), [(Vi r23.1), (Vi r23.2.1), (Sl Kf r23.2.2.1), (Vi r23.2.2.2)], 135, none⟩])) [0] [1, 2, 3] (by decide) (pick_cons rfl pick_nil) (pick_cons rfl (pick_cons rfl (pick_cons rfl pick_nil))) (Hn := fun x : Unit => [⟨.pointer (some wa1), [(Vi r23.1), (Vi r23.2.1), (Sl Kf r23.2.2.1), (Vi r23.2.2.2)], 135, none⟩, ⟨.pointer (some wa0), [(Vi r8.1), (Vl (Vs g8)), (Vl (Vs gz1))], 150, none⟩, (Rw Kf 32 (Vs g8) r8.2.1), (Rw Kf 32 (Vs gz1) r8.2.2)]) (fun _ => rfl) rfl rfl) (wt_none' rfl) fun ⟨⟩ => ?_
   refine s0 (rd_len' rfl Try.underlying22) ?_
   obtain ⟨r25, hr25, hp⟩ := bind_some hp
   refine sx_ox' (ox_callg' (ent_fn' Try.func87 isn87 rfl rfl) (gogeom_Bounds_extendXYZMFlatCoordsWithXYM_sim _ _ _ _ _ _ hr25 : Sx.Fn Try.prog 87 [(Vp wa0), (Sl Kf r21.2.2.1), (Vi 0), (Vi (r23.2.2.1.length : Int))] [⟨.pointer (some wa0), [(Vi r8.1), (Vl (Vs g8)), (Vl (Vs gz1))], 150, none⟩, (Rw Kf 32 (Vs g8) r8.2.1), (Rw Kf 32 (Vs gz1) r8.2.2)] (fun x : Unit => (Vp wa0)) (fun x => [⟨.pointer (some wa0), [(Vi r25.1), (Vl (Vs g8)), (Vl (Vs gz1))], 150, none⟩, (Rw Kf 32 (Vs g8) r25.2.1), (Rw Kf 32 (Vs gz1) r25.2.2)])) [1, 2, 3] [0] (by decide) (pick_cons rfl (pick_cons rfl (pick_cons rfl pick_nil))) (pick_cons rfl pick_nil) (Hn := fun x : Unit => [⟨.pointer (some wa0), [(Vi r25.1), (Vl (Vs g8)), (Vl (Vs gz1))], 150, none⟩, (Rw Kf 32 (Vs g8) r25.2.1), (Rw Kf 32 (Vs gz1) r25.2.2), ⟨.pointer (some wa1), [(Vi r23.1), (Vi r23.2.1), (Sl Kf r23.2.2.1), (Vi r23.2.2.2)], 135, none⟩]) (fun _ => rfl) rfl rfl) (wt_none' rfl) fun ⟨⟩ => ?_
   refine s0 (rd_assign' rfl) ?_
   refine nk hK6 ?_
   refine cx_retc' ?_
   replace hp := Option.some.inj hp
   subst hp
   refine tx_pick' (L' := [(4, (Vp wa0))]) (H' := [⟨.pointer (some wa0), [(Vi r25.1), (Vl (Vs g8)), (Vl (Vs gz1))], 150, none⟩, (Rw Kf 32 (Vs g8) r25.2.1), (Rw Kf 32 (Vs gz1) r25.2.2), ⟨.pointer (some wa1), [(Vi r23.1), (Vi r23.2.1), (Sl Kf r23.2.2.1), (Vi r23.2.2.2)], 135, none⟩]) [0, 1, 2, 3] (sub_cons rfl sub_nil) (by decide) (pick_cons rfl (pick_cons rfl (pick_cons rfl (pick_cons rfl pick_nil)))) ?_
   exact tx_ret1' Try.results55 rfl (g8, gz1) (rv_tmp' rfl) (List.Sublist.refl _)
  replace hp := (br_f h2).symm.trans hp
  refine cx_skip' ?_
  show TX E K3 _
  refine tx_k' hK3 ?_
  refine cr fun K7 hK7 => ?_
  refine s0 (rd_move' rfl) ?_
  refine s0 (rd_move' rfl) ?_
  obtain ⟨r28, hr28, hp⟩ := bind_some hp
  refine sx_ox' (ox_callg' (ent_inv' rfl rfl (inv_ptr0 (inv72_FlatCoords _))) (gogeom_geom0_FlatCoords_sim _ _ _ _ hr28 : Sx.Fn Try.prog 133 [(Vp wa1)] [⟨.pointer (some wa1), [(Vi x1), (Vi x2), (Sl Kf x3), (Vi x4)], 135, none⟩] (fun x : Unit => (Sl Kf r28.2.2.1)) (fun x => [⟨.pointer (some wa1), [(Vi r28.1), (Vi r28.2.1), (Sl Kf r28.2.2.1), (Vi r28.2.2.2)], 135, none⟩])) [3] [0, 1, 2] (by decide) (pick_cons rfl pick_nil) (pick_cons rfl (pick_cons rfl (pick_cons rfl pick_nil))) (Hn := fun x : Unit => [⟨.pointer (some wa1), [(Vi r28.1), (Vi r28.2.1), (Sl Kf r28.2.2.1), (Vi r28.2.2.2)], 135, none⟩, ⟨.pointer (some wa0), [(Vi r8.1), (Vl (Vs g8)), (Vl (Vs gz1))], 150, none⟩, (Rw Kf 32 (Vs g8) r8.2.1), (Rw Kf 32 (Vs gz1) r8.2.2)]) (fun _ => rfl) rfl rfl) (wt_none' rfl) fun ⟨⟩ => ?_
  refine s0 (rd_move' rfl) ?_
  obtain ⟨r30, hr30, hp⟩ := bind_some hp
  refine sx_ox' (ox_callg' (ent_inv' rfl rfl (inv_ptr0 (inv72_FlatCoords _))) (gogeom_geom0_FlatCoords_sim _ _ _ _ hr30 : Sx.Fn Try.prog 133 [(Vp wa1)] [⟨.pointer (some wa1), [(Vi r28.1), (Vi r28.2.1), (Sl Kf r28.2.2.1), (Vi r28.2.2.2)], 135, none⟩] (fun x : Unit => (Sl Kf r30.2.2.1)) (fun x => [⟨.pointer (some wa1), [(Vi r30.1), (Vi r30.2.1), (Sl Kf r30.2.2.1), (Vi r30.2.2.2)], 135, none⟩])) [0] [1, 2, 3] (by decide) (pick_cons rfl pick_nil) (pick_cons rfl (pick_cons rfl (pick_cons rfl pick_nil))) (Hn := fun x : Unit => [⟨.pointer (some wa1), [(Vi r30.1), (Vi r30.2.1), (Sl Kf r30.2.2.1), (Vi r30.2.2.2)], 135, none⟩, ⟨.pointer (some wa0), [(Vi r8.1), (Vl (Vs g8)), (Vl (Vs gz1))], 150, none⟩, (Rw Kf 32 (Vs g8) r8.2.1), (Rw Kf 32 (Vs gz1) r8.2.2)]) (fun _ => rfl) rfl rfl) (wt_none' rfl) fun ⟨⟩ => ?_
  refine s0 (rd_len' rfl Try.underlying22) ?_
  refine s0 (rd_move' rfl) ?_
  obtain ⟨r33, hr33, hp⟩ := bind_some hp
  refine sx_ox' (ox_callg' (ent_inv' rfl rfl (inv_ptr0 (inv72_Stride _))) (gogeom_geom0_Stride_sim _ _ _ _ hr33 : Sx.Fn Try.prog 137 [(Vp wa1)] [⟨.pointer (some wa1), [(Vi r30.1), (Vi r30.2.1), (Sl Kf r30.2.2.1), (Vi r30.2.2.2)], 135, none⟩] (fun x : Unit => (Vi r33.2.1)) (fun x => [⟨.pointer (some wa1), [(Vi r33.1), (Vi r33.2.1), (Sl Kf r33.2.2.1), (Vi r33.2.2.2)], 135, none⟩])) [0] [1, 2, 3] (by decide) (pick_cons rfl pick_nil) (pick_cons rfl (pick_cons rfl (pick_cons rfl pick_nil))) (Hn := fun x : Unit => [⟨.pointer (some wa1), [(Vi r33.1), (Vi r33.2.1), (Sl Kf r33.2.2.1), (Vi r33.2.2.2)], 135, none⟩, ⟨.pointer (some wa0), [(Vi r8.1), (Vl (Vs g8)), (Vl (Vs gz1))], 150, none⟩, (Rw Kf 32 (Vs g8) r8.2.1), (Rw Kf 32 (Vs gz1) r8.2.2)]) (fun _ => rfl) rfl rfl) (wt_none' rfl) fun ⟨⟩ => ?_
  obtain ⟨r34, hr34, hp⟩ := bind_some hp
  refine sx_ox' (ox_callg' (ent_fn' Try.func88 isn88 rfl rfl) (gogeom_Bounds_extendFlatCoords_sim _ _ _ _ _ _ _ hr34 : Sx.Fn Try.prog 88 [(Vp wa0), (Sl Kf r28.2.2.1), (Vi 0), (Vi (r30.2.2.1.length : Int)), (Vi r33.2.1)] [⟨.pointer (some wa0), [(Vi r8.1), (Vl (Vs g8)), (Vl (Vs gz1))], 150, none⟩, (Rw Kf 32 (Vs g8) r8.2.1), (Rw Kf 32 (Vs gz1) r8.2.2)] (fun x : Gs × Gs => (Vp wa0)) (fun x => [⟨.pointer (some wa0), [(Vi r34.1), (Vl (Vs x.1)), (Vl (Vs x.2))], 150, none⟩, (Rw Kf 32 (Vs x.1) r34.2.1), (Rw Kf 32 (Vs x.2) r34.2.2)])) [1, 2, 3] [0] (by decide) (pick_cons rfl (pick_cons rfl (pick_cons rfl pick_nil))) (pick_cons rfl pick_nil) (Hn := fun x : Gs × Gs => [⟨.pointer (some wa0), [(Vi r34.1), (Vl (Vs x.1)), (Vl (Vs x.2))], 150, none⟩, (Rw Kf 32 (Vs x.1) r34.2.1), (Rw Kf 32 (Vs x.2) r34.2.2), ⟨.pointer (some wa1), [(Vi r33.1), (Vi r33.2.1), (Sl Kf r33.2.2.1), (Vi r33.2.2.2)], 135, none⟩]) (fun _ => rfl) rfl rfl) (wt_none' rfl) fun ⟨g34, gz2⟩ => ?_
  refine s0 (rd_assign' rfl) ?_
  refine nk hK7 ?_
  refine cx_retc' ?_
  replace hp := Option.some.inj hp
  subst hp
  refine tx_pick' (L' := [(4, (Vp wa0))]) (H' := [⟨.pointer (some wa0), [(Vi r34.1), (Vl (Vs g34)), (Vl (Vs gz2))], 150, none⟩, (Rw Kf 32 (Vs g34) r34.2.1), (Rw Kf 32 (Vs gz2) r34.2.2), ⟨.pointer (some wa1), [(Vi r33.1), (Vi r33.2.1), (Sl Kf r33.2.2.1), (Vi r33.2.2.2)], 135, none⟩]) [0, 1, 2, 3] (sub_cons rfl sub_nil) (by decide) (pick_cons rfl (pick_cons rfl (pick_cons rfl (pick_cons rfl pick_nil)))) ?_
  exact tx_ret1' Try.results55 rfl (g34, gz2) (rv_tmp' rfl) (List.Sublist.refl _)
 intro K5 hK5
 rcases br_cases hp with ⟨h1, hp⟩ | ⟨h1, hp⟩
 ·refine sx_rd' (rd_move' rfl) rfl rfl (wt_is' (wt_guard' rfl rfl rfl) (beq_tt h1)) ?_
  obtain ⟨r16, hr16, hp⟩ := bind_some hp
  refine sx_ox' (ox_callg' (ent_inv' rfl rfl (inv_ptr0 (inv72_Layout _))) (gogeom_geom0_Layout_sim _ _ _ _ hr16 : Sx.Fn Try.prog 134 [(Vp wa1)] [⟨.pointer (some wa1), [(Vi r7.1), (Vi r7.2.1), (Sl Kf r7.2.2.1), (Vi r7.2.2.2)], 135, none⟩] (fun x : Unit => (Vi r16.1)) (fun x => [⟨.pointer (some wa1), [(Vi r16.1), (Vi r16.2.1), (Sl Kf r16.2.2.1), (Vi r16.2.2.2)], 135, none⟩])) [3] [0, 1, 2] (by decide) (pick_cons rfl pick_nil) (pick_cons rfl (pick_cons rfl (pick_cons rfl pick_nil))) (Hn := fun x : Unit => [⟨.pointer (some wa1), [(Vi r16.1), (Vi r16.2.1), (Sl Kf r16.2.2.1), (Vi r16.2.2.2)], 135, none⟩, ⟨.pointer (some wa0), [(Vi r8.1), (Vl (Vs g8)), (Vl (Vs gz1))], 150, none⟩, (Rw Kf 32 (Vs g8) r8.2.1), (Rw Kf 32 (Vs gz1) r8.2.2)]) (fun _ => rfl) rfl rfl) (wt_is' (wt_guard' rfl rfl rfl) (beq_tt h1)) fun ⟨⟩ => ?_
  refine sx_rd' (rd_bin' rfl rfl eg_int ru_eql) rfl rfl (wt_is' (wt_guard' rfl rfl rfl) (beq_tt h1)) ?_
  refine s0 (rd_pick_true' rfl h1 rfl) ?_
  refine sx_nil' ?_
  show TX E K5 _
  exact tx_pick' [1, 2, 3, 0] (sub_cons rfl (sub_cons rfl (sub_cons rfl sub_nil))) (by decide) (pick_cons rfl (pick_cons rfl (pick_cons rfl (pick_cons rfl pick_nil)))) (hK5 (r16.1, r16.2.1, r16.2.2.1, r16.2.2.2, (decide (r16.1 = 3))) hp)
 refine sx_skip' rfl rfl (wt_is' (wt_guard' rfl rfl rfl) (beq_ft h1)) ?_
 refine sx_skip' rfl rfl (wt_is' (wt_guard' rfl rfl rfl) (beq_ft h1)) ?_
 refine sx_skip' rfl rfl (wt_is' (wt_guard' rfl rfl rfl) (beq_ft h1)) ?_
 refine s0 (rd_pick_false' rfl h1 rfl) ?_
 refine sx_nil' ?_
 show TX E K5 _
 exact tx_pick' [0, 1, 2, 3] (sub_cons rfl (sub_cons rfl (sub_cons rfl sub_nil))) (by decide) (pick_cons rfl (pick_cons rfl (pick_cons rfl (pick_cons rfl pick_nil)))) (hK5 (r7.1, r7.2.1, r7.2.2.1, r7.2.2.2, false) hp)

def gogeom_DoorBoundsParts (k : Nat) (a0_0 : Int) (a0_1 : List Nat) (a0_2 : List Nat) : Option (Int × (List Nat) × (List Nat)) :=
 some (a0_0, a0_1, a0_2)

theorem gogeom_DoorBoundsParts_sim {k : Nat} {wa0 : Addr} {wa0_1 : Gs} {wa0_2 : Gs} (a0_0 : Int) (a0_1 : List Nat) (a0_2 : List Nat) {out : Int × (List Nat) × (List Nat)} (hp : gogeom_DoorBoundsParts k a0_0 a0_1 a0_2 = some out) : Sx.Fn Try.prog 84 [(Vp wa0)] [⟨.pointer (some wa0), [(Vi a0_0), (Vl (Vs wa0_1)), (Vl (Vs wa0_2))], 150, none⟩, (Rw Kf 32 (Vs wa0_1) a0_1), (Rw Kf 32 (Vs wa0_2) a0_2)] (fun w : Unit => (Tu [(Vi out.1), (Vl (Vs wa0_1)), (Vl (Vs wa0_2))])) (fun w => [⟨.pointer (some wa0), [(Vi out.1), (Vl (Vs wa0_1)), (Vl (Vs wa0_2))], 150, none⟩, (Rw Kf 32 (Vs wa0_1) out.2.1), (Rw Kf 32 (Vs wa0_2) out.2.2)]) := by
 unfold gogeom_DoorBoundsParts at hp
 refine fn_of Try.func84 rfl Try.ntmps84 rfl fun E hM => ?_
 refine cr fun K1 hK1 => ?_
 refine s0 (rd_assign' rfl) ?_
 refine s0 (rd_assign' rfl) ?_
 refine s0 (rd_assign' rfl) ?_
 refine nk hK1 ?_
 refine cx_seq' fun K2 hK2 => ?_
 refine cx_draw' mixed (by kernel_rfl) ?_
 refine qx_rd' (rd_move' rfl) rfl rfl (wt_none' rfl) ?_
 refine qx_rd' (rd_nilck' rfl) rfl rfl (wt_none' rfl) ?_
 refine qx_rd' (rd_field0' rfl Try.underlying150 rfl info61 rfl) rfl rfl (wt_none' rfl) ?_
 refine qx_rd' (rd_load' (i := 0) (o := 0) rfl ⟨rfl, rfl, rfl, rfl⟩ rfl flat61) rfl rfl (wt_none' rfl) ?_
 refine qx_rd' (rd_move' rfl) rfl rfl (wt_none' rfl) ?_
 refine qx_rd' (rd_nilck' rfl) rfl rfl (wt_none' rfl) ?_
 refine qx_rd' (rd_field' (off := 1) rfl Try.underlying150 rfl info144 rfl) rfl rfl (wt_none' rfl) ?_
 refine qx_rd' (rd_load' (i := 0) (o := 1) rfl ⟨rfl, rfl, rfl, rfl⟩ rfl flat144) rfl rfl (wt_none' rfl) ?_
 refine qx_rd' (rd_move' rfl) rfl rfl (wt_none' rfl) ?_
 refine qx_rd' (rd_nilck' rfl) rfl rfl (wt_none' rfl) ?_
 refine qx_rd' (rd_field' (off := 2) rfl Try.underlying150 rfl info144 rfl) rfl rfl (wt_none' rfl) ?_
 refine qx_rd' (rd_load' (i := 0) (o := 2) rfl ⟨rfl, rfl, rfl, rfl⟩ rfl flat144) rfl rfl (wt_none' rfl) ?_
 refine qx_rd' (rd_assign' rfl) rfl rfl (wt_none' rfl) ?_
 refine qx_rd' (rd_assign' rfl) rfl rfl (wt_none' rfl) ?_
 refine qx_rd' (rd_assign' rfl) rfl rfl (wt_none' rfl) ?_
 refine qx_nil' ?_
 show TX E K2 _
 refine tx_k' hK2 ?_
 refine cx_retc' ?_
 replace hp := Option.some.inj hp
 subst hp
 refine tx_pick' (L' := [(2, (Vi a0_0)), (3, (Vl (Vs wa0_1))), (4, (Vl (Vs wa0_2)))]) (H' := [⟨.pointer (some wa0), [(Vi a0_0), (Vl (Vs wa0_1)), (Vl (Vs wa0_2))], 150, none⟩, (Rw Kf 32 (Vs wa0_1) a0_1), (Rw Kf 32 (Vs wa0_2) a0_2)]) [0, 1, 2] (sub_cons rfl (sub_cons rfl (sub_cons rfl sub_nil))) (by decide) (pick_cons rfl (pick_cons rfl (pick_cons rfl pick_nil))) ?_
 exact tx_ret3' Try.results84 rfl () (rv_tmp' rfl) (rv_tmp' rfl) (rv_tmp' rfl) rfl (List.Sublist.refl _)

def impl_floats_v2 (k : Nat) (a0 : List Nat) : Option ((List Nat) × (List Nat)) :=
 (apd 8 [] a0) >>= fun r4 =>
 some (a0, r4)

theorem impl_floats_v2_sim {k : Nat} {wa0 : Gs} (a0 : List Nat) {out : (List Nat) × (List Nat)} (hp : impl_floats_v2 k a0 = some out) : Sx.Fn Try.prog 59 [(Vl (Vs wa0))] [(Rw Kf 32 (Vs wa0) a0)] (fun w : Gs => (Vl (Vs w))) (fun w => [(Rw Kf 32 (Vs wa0) out.1), (Rw Kf 32 (Vs w) out.2)]) := by
 unfold impl_floats_v2 at hp
 refine fn_of Try.func59 rfl Try.ntmps59 rfl fun E hM => ?_
 refine cr fun K1 hK1 => ?_
 refine s0 (rd_assign' rfl) ?_
 refine nk hK1 ?_
 refine cr fun K2 hK2 => ?_
 refine s0 (rd_move' rfl) ?_
 refine tx_nilrow' Kf 32 ?_
 obtain ⟨r4, hr4, hp⟩ := bind_some hp
 refine sx_ox' (ox_append' (K := Kf) (i := 0) (xs := []) (ys := a0) rfl rfl rfl (sr_row' (j := 1) rfl rfl rfl Try.underlying22) hr4 Try.underlying22 info32 rfl rfl rfl (H' := [(Rw Kf 32 (Vs wa0) a0)]) rfl) (wt_none' rfl) fun g4 => ?_
 refine s0 (rd_assign' rfl) ?_
 refine nk hK2 ?_
 refine cx_retc' ?_
 replace hp := Option.some.inj hp
 subst hp
 refine tx_pick' (L' := [(2, (Vl (Vs g4)))]) (H' := [(Rw Kf 32 (Vs wa0) a0), (Rw Kf 32 (Vs g4) r4)]) [1, 0] (sub_cons rfl sub_nil) (by decide) (pick_cons rfl (pick_cons rfl pick_nil)) ?_
 exact tx_ret1' Try.results59 rfl g4 (rv_tmp' rfl) (List.Sublist.refl _)

def impl_plainBox (k : Nat) (a0_0 : Int) (a0_1 : List Nat) (a0_2 : List Nat) : Option (Int × (List Nat) × (List Nat) × (List Nat) × (List Nat)) :=
 (gogeom_DoorBoundsParts k a0_0 a0_1 a0_2) >>= fun r8 =>
 (impl_floats_v2 k r8.2.1) >>= fun r14 =>
 (impl_floats_v2 k r8.2.2) >>= fun r16 =>
 some (r8.1, r14.1, r16.1, r14.2, r16.2)

theorem impl_plainBox_sim {k : Nat} {wa0 : Addr} {wa0_1 : Gs} {wa0_2 : Gs} (a0_0 : Int) (a0_1 : List Nat) (a0_2 : List Nat) {out : Int × (List Nat) × (List Nat) × (List Nat) × (List Nat)} (hp : impl_plainBox k a0_0 a0_1 a0_2 = some out) : Sx.Fn Try.prog 53 [(Vp wa0)] [⟨.pointer (some wa0), [(Vi a0_0), (Vl (Vs wa0_1)), (Vl (Vs wa0_2))], 150, none⟩, (Rw Kf 32 (Vs wa0_1) a0_1), (Rw Kf 32 (Vs wa0_2) a0_2)] (fun w : Unit => (Ag [(Vi out.1), (Sl Kf out.2.2.2.1), (Sl Kf out.2.2.2.2)])) (fun w => [⟨.pointer (some wa0), [(Vi out.1), (Vl (Vs wa0_1)), (Vl (Vs wa0_2))], 150, none⟩, (Rw Kf 32 (Vs wa0_1) out.2.1), (Rw Kf 32 (Vs wa0_2) out.2.2.1)]) := by
 unfold impl_plainBox at hp
 refine fn_of Try.func53 rfl Try.ntmps53 rfl fun E hM => ?_
 refine cr fun K1 hK1 => ?_
 refine sx_ox' (ox_alloc' info43 rfl rfl rfl rfl (l := [(Vi 0), Vn, Vn]) rfl) (wt_none' rfl) fun q2 => ?_
 refine nk hK1 ?_
 refine cr fun K2 hK2 => ?_
 refine s0 (rd_move' rfl) ?_
 obtain ⟨r8, hr8, hp⟩ := bind_some hp
 refine sx_ox' (ox_callg' (ent_fn' Try.func84 isn84 rfl rfl) (gogeom_DoorBoundsParts_sim _ _ _ hr8 : Sx.Fn Try.prog 84 [(Vp wa0)] [⟨.pointer (some wa0), [(Vi a0_0), (Vl (Vs wa0_1)), (Vl (Vs wa0_2))], 150, none⟩, (Rw Kf 32 (Vs wa0_1) a0_1), (Rw Kf 32 (Vs wa0_2) a0_2)] (fun x : Unit => (Tu [(Vi r8.1), (Vl (Vs wa0_1)), (Vl (Vs wa0_2))])) (fun x => [⟨.pointer (some wa0), [(Vi r8.1), (Vl (Vs wa0_1)), (Vl (Vs wa0_2))], 150, none⟩, (Rw Kf 32 (Vs wa0_1) r8.2.1), (Rw Kf 32 (Vs wa0_2) r8.2.2)])) [1, 2, 3] [0] (by decide) (pick_cons rfl (pick_cons rfl (pick_cons rfl pick_nil))) (pick_cons rfl pick_nil) (Hn := fun x : Unit => [⟨.pointer (some wa0), [(Vi r8.1), (Vl (Vs wa0_1)), (Vl (Vs wa0_2))], 150, none⟩, (Rw Kf 32 (Vs wa0_1) r8.2.1), (Rw Kf 32 (Vs wa0_2) r8.2.2), ⟨.pointer (some q2), [(Vi 0), Vn, Vn], 43, none⟩]) (fun _ => rfl) rfl rfl) (wt_none' rfl) fun ⟨⟩ => ?_
 refine s0 (rd_move' rfl) ?_
 refine s0 (rd_extract' rfl rfl) ?_
 refine s0 (rd_extract' rfl rfl) ?_
 refine s0 (rd_extract' rfl rfl) ?_
 refine s0 (rd_assign' rfl) ?_
 refine s0 (rd_assign' rfl) ?_
 refine s0 (rd_assign' rfl) ?_
 refine nk hK2 ?_
 refine cr fun K3 hK3 => ?_
 refine s0 (rd_move' rfl) ?_
 refine s0 (rd_move' rfl) ?_
 obtain ⟨r14, hr14, hp⟩ := bind_some hp
 refine sx_ox' (ox_callg' (ent_fn' Try.func59 isn59 rfl rfl) (impl_floats_v2_sim _ hr14 : Sx.Fn Try.prog 59 [(Vl (Vs wa0_1))] [(Rw Kf 32 (Vs wa0_1) r8.2.1)] (fun x : Gs => (Vl (Vs x))) (fun x => [(Rw Kf 32 (Vs wa0_1) r14.1), (Rw Kf 32 (Vs x) r14.2)])) [1] [0, 2, 3] (by decide) (pick_cons rfl pick_nil) (pick_cons rfl (pick_cons rfl (pick_cons rfl pick_nil))) (Hn := fun x : Gs => [(Rw Kf 32 (Vs wa0_1) r14.1), (Rw Kf 32 (Vs x) r14.2), ⟨.pointer (some wa0), [(Vi r8.1), (Vl (Vs wa0_1)), (Vl (Vs wa0_2))], 150, none⟩, (Rw Kf 32 (Vs wa0_2) r8.2.2), ⟨.pointer (some q2), [(Vi 0), Vn, Vn], 43, none⟩]) (fun _ => rfl) rfl rfl) (wt_none' rfl) fun g14 => ?_
 refine s0 (rd_move' rfl) ?_
 obtain ⟨r16, hr16, hp⟩ := bind_some hp
 refine sx_ox' (ox_callg' (ent_fn' Try.func59 isn59 rfl rfl) (impl_floats_v2_sim _ hr16 : Sx.Fn Try.prog 59 [(Vl (Vs wa0_2))] [(Rw Kf 32 (Vs wa0_2) r8.2.2)] (fun x : Gs => (Vl (Vs x))) (fun x => [(Rw Kf 32 (Vs wa0_2) r16.1), (Rw Kf 32 (Vs x) r16.2)])) [3] [0, 1, 2, 4] (by decide) (pick_cons rfl pick_nil) (pick_cons rfl (pick_cons rfl (pick_cons rfl (pick_cons rfl pick_nil)))) (Hn := fun x : Gs => [(Rw Kf 32 (Vs wa0_2) r16.1), (Rw Kf 32 (Vs x) r16.2), (Rw Kf 32 (Vs wa0_1) r14.1), (Rw Kf 32 (Vs g14) r14.2), ⟨.pointer (some wa0), [(Vi r8.1), (Vl (Vs wa0_1)), (Vl (Vs wa0_2))], 150, none⟩, ⟨.pointer (some q2), [(Vi 0), Vn, Vn], 43, none⟩]) (fun _ => rfl) rfl rfl) (wt_none' rfl) fun g16 => ?_
 refine s0 (rd_build' (pls := [(0, 1), (1, 1), (2, 1)]) (qs := [(0, [(Vi r8.1)]), (1, [(Vl (Vs g14))]), (2, [(Vl (Vs g16))])]) (r := [(Vi r8.1), (Vl (Vs g14)), (Vl (Vs g16))]) ⟨rfl, ⟨_, rfl, (lv_vl rfl rfl)⟩, ⟨rfl, ⟨_, rfl, (lv_vl rfl rfl)⟩, ⟨rfl, ⟨_, rfl, (lv_vl rfl rfl)⟩, trivial⟩⟩⟩ Try.underlying43 has43 places43 info43 rfl rfl rfl) ?_
 refine sx_ox' (ox_store' (i := 5) (o := 0) rfl rfl (lv_ag _) ⟨rfl, rfl, rfl, rfl⟩ rfl info43 rfl (H' := [(Rw Kf 32 (Vs wa0_2) r16.1), (Rw Kf 32 (Vs g16) r16.2), (Rw Kf 32 (Vs wa0_1) r14.1), (Rw Kf 32 (Vs g14) r14.2), ⟨.pointer (some wa0), [(Vi r8.1), (Vl (Vs wa0_1)), (Vl (Vs wa0_2))], 150, none⟩, ⟨.pointer (some q2), [(Vi r8.1), (Vl (Vs g14)), (Vl (Vs g16))], 43, none⟩]) rfl) (wt_none' rfl) fun _ => ?_
 refine nk hK3 ?_
 refine cx_retc' ?_
 replace hp := Option.some.inj hp
 subst hp
 refine tx_fz' (frz_row 3 [(14, (Vl (Vs g14)), (Sl Kf r14.2)), (17, (Ag [(Vi r8.1), (Vl (Vs g14)), (Vl (Vs g16))]), (Ag [(Vi r8.1), (Sl Kf r14.2), (Vl (Vs g16))]))] (K := Kf) (xs := r14.2) (by decide) rfl ⟨⟨rfl, frz_it⟩, ⟨rfl, fz_ag (fz0_cons fz0_same (fz0_cons fz0_it (fz0_cons fz0_same fz0_nil)))⟩, trivial⟩ (H' := [(Rw Kf 32 (Vs wa0_2) r16.1), (Rw Kf 32 (Vs g16) r16.2), (Rw Kf 32 (Vs wa0_1) r14.1), ⟨.pointer (some wa0), [(Vi r8.1), (Vl (Vs wa0_1)), (Vl (Vs wa0_2))], 150, none⟩, ⟨.pointer (some q2), [(Vi r8.1), (Sl Kf r14.2), (Vl (Vs g16))], 43, none⟩]) (frzH_cons rfl rfl rfl frzL_refl (frzH_cons rfl rfl rfl frzL_refl (frzH_cons rfl rfl rfl frzL_refl (frzH_cons rfl rfl rfl frzL_refl (frzH_cons rfl rfl rfl (frzL_cons frz_same (frzL_cons frz_it (frzL_cons frz_same frzL_refl))) frzH_refl)))))) ?_
 refine tx_fz' (frz_row 1 [(16, (Vl (Vs g16)), (Sl Kf r16.2)), (17, (Ag [(Vi r8.1), (Sl Kf r14.2), (Vl (Vs g16))]), (Ag [(Vi r8.1), (Sl Kf r14.2), (Sl Kf r16.2)]))] (K := Kf) (xs := r16.2) (by decide) rfl ⟨⟨rfl, frz_it⟩, ⟨rfl, fz_ag (fz0_cons fz0_same (fz0_cons fz0_same (fz0_cons fz0_it fz0_nil)))⟩, trivial⟩ (H' := [(Rw Kf 32 (Vs wa0_2) r16.1), (Rw Kf 32 (Vs wa0_1) r14.1), ⟨.pointer (some wa0), [(Vi r8.1), (Vl (Vs wa0_1)), (Vl (Vs wa0_2))], 150, none⟩, ⟨.pointer (some q2), [(Vi r8.1), (Sl Kf r14.2), (Sl Kf r16.2)], 43, none⟩]) (frzH_cons rfl rfl rfl frzL_refl (frzH_cons rfl rfl rfl frzL_refl (frzH_cons rfl rfl rfl frzL_refl (frzH_cons rfl rfl rfl (frzL_cons frz_same (frzL_cons frz_same (frzL_cons frz_it frzL_refl))) frzH_refl))))) ?_
 refine tx_pick' (L' := [(2, (Vp q2))]) (H' := [⟨.pointer (some wa0), [(Vi r8.1), (Vl (Vs wa0_1)), (Vl (Vs wa0_2))], 150, none⟩, (Rw Kf 32 (Vs wa0_1) r14.1), (Rw Kf 32 (Vs wa0_2) r16.1), ⟨.pointer (some q2), [(Vi r8.1), (Sl Kf r14.2), (Sl Kf r16.2)], 43, none⟩]) [2, 1, 0, 3] (sub_cons rfl sub_nil) (by decide) (pick_cons rfl (pick_cons rfl (pick_cons rfl (pick_cons rfl pick_nil)))) ?_
 exact tx_ret1' Try.results53 rfl () (rv_cell_agg' (i := 3) (o := 0) (nn := 3) rfl ⟨rfl, rfl, rfl, rfl⟩ rfl agg43 rfl) (List.Sublist.cons_cons _ (List.Sublist.cons_cons _ (List.Sublist.cons_cons _ (List.nil_sublist _))))

def gogeom_geom0_Layout_v2 (k : Nat) (a0_0 : Int) (a0_1 : Int) (a0_2 : List Nat) (a0_3 : Int) : Option (Int × Int × (List Nat) × Int) :=
 some (a0_0, a0_1, a0_2, a0_3)

theorem gogeom_geom0_Layout_v2_sim {k : Nat} {wa0 : Addr} (a0_0 : Int) (a0_1 : Int) (a0_2 : List Nat) (a0_3 : Int) {out : Int × Int × (List Nat) × Int} (hp : gogeom_geom0_Layout_v2 k a0_0 a0_1 a0_2 a0_3 = some out) : Sx.Fn Try.prog 134 [(Vp wa0)] [⟨.pointer (some wa0), [(Vi a0_0), (Vi a0_1), (Sl Kf a0_2), (Vi a0_3)], 138, none⟩] (fun w : Unit => (Vi out.1)) (fun w => [⟨.pointer (some wa0), [(Vi out.1), (Vi out.2.1), (Sl Kf out.2.2.1), (Vi out.2.2.2)], 138, none⟩]) := by
 unfold gogeom_geom0_Layout_v2 at hp
 refine fn_of Try.func134 rfl Try.ntmps134 rfl fun E hM => ?_
 refine cr fun K1 hK1 => ?_
 refine s0 (rd_assign' rfl) ?_
 refine nk hK1 ?_
 refine cr fun K2 hK2 => ?_
 refine s0 (rd_move' rfl) ?_
 refine s0 (rd_nilck' rfl) ?_
 refine s0 (rd_field0' rfl Try.underlying124 rfl info61 rfl) ?_
 refine s0 (rd_load' (i := 0) (o := 0) rfl ⟨rfl, rfl, rfl, rfl⟩ rfl flat61) ?_
 refine s0 (rd_assign' rfl) ?_
 refine nk hK2 ?_
 refine cx_retc' ?_
 replace hp := Option.some.inj hp
 subst hp
 refine tx_pick' (L' := [(2, (Vi a0_0))]) (H' := [⟨.pointer (some wa0), [(Vi a0_0), (Vi a0_1), (Sl Kf a0_2), (Vi a0_3)], 138, none⟩]) [0] (sub_cons rfl sub_nil) (by decide) (pick_cons rfl pick_nil) ?_
 exact tx_ret1' Try.results134 rfl () (rv_tmp' rfl) (List.Sublist.refl _)

def gogeom_geom0_FlatCoords_v2 (k : Nat) (a0_0 : Int) (a0_1 : Int) (a0_2 : List Nat) (a0_3 : Int) : Option (Int × Int × (List Nat) × Int) :=
 some (a0_0, a0_1, a0_2, a0_3)

theorem gogeom_geom0_FlatCoords_v2_sim {k : Nat} {wa0 : Addr} (a0_0 : Int) (a0_1 : Int) (a0_2 : List Nat) (a0_3 : Int) {out : Int × Int × (List Nat) × Int} (hp : gogeom_geom0_FlatCoords_v2 k a0_0 a0_1 a0_2 a0_3 = some out) : Sx.Fn Try.prog 133 [(Vp wa0)] [⟨.pointer (some wa0), [(Vi a0_0), (Vi a0_1), (Sl Kf a0_2), (Vi a0_3)], 138, none⟩] (fun w : Unit => (Sl Kf out.2.2.1)) (fun w => [⟨.pointer (some wa0), [(Vi out.1), (Vi out.2.1), (Sl Kf out.2.2.1), (Vi out.2.2.2)], 138, none⟩]) := by
 unfold gogeom_geom0_FlatCoords_v2 at hp
 refine fn_of Try.func133 rfl Try.ntmps133 rfl fun E hM => ?_
 refine cr fun K1 hK1 => ?_
 refine s0 (rd_assign' rfl) ?_
 refine nk hK1 ?_
 refine cr fun K2 hK2 => ?_
 refine s0 (rd_move' rfl) ?_
 refine s0 (rd_nilck' rfl) ?_
 refine s0 (rd_field' (off := 2) rfl Try.underlying124 rfl info22 rfl) ?_
 refine s0 (rd_load' (i := 0) (o := 2) rfl ⟨rfl, rfl, rfl, rfl⟩ rfl flat22) ?_
 refine s0 (rd_assign' rfl) ?_
 refine nk hK2 ?_
 refine cx_retc' ?_
 replace hp := Option.some.inj hp
 subst hp
 refine tx_pick' (L' := [(2, (Sl Kf a0_2))]) (H' := [⟨.pointer (some wa0), [(Vi a0_0), (Vi a0_1), (Sl Kf a0_2), (Vi a0_3)], 138, none⟩]) [0] (sub_cons rfl sub_nil) (by decide) (pick_cons rfl pick_nil) ?_
 exact tx_ret1' Try.results133 rfl () (rv_tmp' rfl) (List.Sublist.refl _)

def gogeom_geom0_Stride_v2 (k : Nat) (a0_0 : Int) (a0_1 : Int) (a0_2 : List Nat) (a0_3 : Int) : Option (Int × Int × (List Nat) × Int) :=
 some (a0_0, a0_1, a0_2, a0_3)

theorem gogeom_geom0_Stride_v2_sim {k : Nat} {wa0 : Addr} (a0_0 : Int) (a0_1 : Int) (a0_2 : List Nat) (a0_3 : Int) {out : Int × Int × (List Nat) × Int} (hp : gogeom_geom0_Stride_v2 k a0_0 a0_1 a0_2 a0_3 = some out) : Sx.Fn Try.prog 137 [(Vp wa0)] [⟨.pointer (some wa0), [(Vi a0_0), (Vi a0_1), (Sl Kf a0_2), (Vi a0_3)], 138, none⟩] (fun w : Unit => (Vi out.2.1)) (fun w => [⟨.pointer (some wa0), [(Vi out.1), (Vi out.2.1), (Sl Kf out.2.2.1), (Vi out.2.2.2)], 138, none⟩]) := by
 unfold gogeom_geom0_Stride_v2 at hp
 refine fn_of Try.func137 rfl Try.ntmps137 rfl fun E hM => ?_
 refine cr fun K1 hK1 => ?_
 refine s0 (rd_assign' rfl) ?_
 refine nk hK1 ?_
 refine cr fun K2 hK2 => ?_
 refine s0 (rd_move' rfl) ?_
 refine s0 (rd_nilck' rfl) ?_
 refine s0 (rd_field' (off := 1) rfl Try.underlying124 rfl info3 rfl) ?_
 refine s0 (rd_load' (i := 0) (o := 1) rfl ⟨rfl, rfl, rfl, rfl⟩ rfl flat3) ?_
 refine s0 (rd_assign' rfl) ?_
 refine nk hK2 ?_
 refine cx_retc' ?_
 replace hp := Option.some.inj hp
 subst hp
 refine tx_pick' (L' := [(2, (Vi a0_1))]) (H' := [⟨.pointer (some wa0), [(Vi a0_0), (Vi a0_1), (Sl Kf a0_2), (Vi a0_3)], 138, none⟩]) [0] (sub_cons rfl sub_nil) (by decide) (pick_cons rfl pick_nil) ?_
 exact tx_ret1' Try.results137 rfl () (rv_tmp' rfl) (List.Sublist.refl _)

def gogeom_Bounds_Extend_v2_j1 (k : Nat) (r8 : Int × (List Nat) × (List Nat)) (x1 : Int) (x2 : Int) (x3 : List Nat) (x4 : Int) (x5 : Bool) : Option (Int × (List Nat) × (List Nat) × Int × Int × (List Nat) × Int) :=
 br x5
  ((gogeom_geom0_FlatCoords_v2 k x1 x2 x3 x4) >>= fun r21 =>
  (gogeom_geom0_FlatCoords_v2 k r21.1 r21.2.1 r21.2.2.1 r21.2.2.2) >>= fun r23 =>
  (gogeom_Bounds_extendXYZMFlatCoordsWithXYM k r8.1 r8.2.1 r8.2.2 r21.2.2.1 0 (r23.2.2.1.length : Int)) >>= fun r25 =>
  some (r25.1, r25.2.1, r25.2.2, r23.1, r23.2.1, r23.2.2.1, r23.2.2.2))
  ((gogeom_geom0_FlatCoords_v2 k x1 x2 x3 x4) >>= fun r28 =>
  (gogeom_geom0_FlatCoords_v2 k r28.1 r28.2.1 r28.2.2.1 r28.2.2.2) >>= fun r30 =>
  (gogeom_geom0_Stride_v2 k r30.1 r30.2.1 r30.2.2.1 r30.2.2.2) >>= fun r33 =>
  (gogeom_Bounds_extendFlatCoords k r8.1 r8.2.1 r8.2.2 r28.2.2.1 0 (r30.2.2.1.length : Int) r33.2.1) >>= fun r34 =>
  some (r34.1, r34.2.1, r34.2.2, r33.1, r33.2.1, r33.2.2.1, r33.2.2.2))
def gogeom_Bounds_Extend_v2 (k : Nat) (a0_0 : Int) (a0_1 : List Nat) (a0_2 : List Nat) (a1_0 : Int) (a1_1 : Int) (a1_2 : List Nat) (a1_3 : Int) : Option (Int × (List Nat) × (List Nat) × Int × Int × (List Nat) × Int) :=
 (gogeom_geom0_Layout_v2 k a1_0 a1_1 a1_2 a1_3) >>= fun r7 =>
 (gogeom_Bounds_extendLayout k a0_0 a0_1 a0_2 r7.1) >>= fun r8 =>
 br (decide (r8.1 = 4))
  ((gogeom_geom0_Layout_v2 k r7.1 r7.2.1 r7.2.2.1 r7.2.2.2) >>= fun r16 =>
  gogeom_Bounds_Extend_v2_j1 k r8 r16.1 r16.2.1 r16.2.2.1 r16.2.2.2 (decide (r16.1 = 3)))
  (gogeom_Bounds_Extend_v2_j1 k r8 r7.1 r7.2.1 r7.2.2.1 r7.2.2.2 false)

theorem gogeom_Bounds_Extend_v2_sim {k : Nat} {wa0 : Addr} {wa0_1 : Gs} {wa0_2 : Gs} {wa1 : Addr} (a0_0 : Int) (a0_1 : List Nat) (a0_2 : List Nat) (a1_0 : Int) (a1_1 : Int) (a1_2 : List Nat) (a1_3 : Int) {out : Int × (List Nat) × (List Nat) × Int × Int × (List Nat) × Int} (hp : gogeom_Bounds_Extend_v2 k a0_0 a0_1 a0_2 a1_0 a1_1 a1_2 a1_3 = some out) : Sx.Fn Try.prog 55 [(Vp wa0), (If 75 (Vp wa1))] [⟨.pointer (some wa0), [(Vi a0_0), (Vl (Vs wa0_1)), (Vl (Vs wa0_2))], 150, none⟩, (Rw Kf 32 (Vs wa0_1) a0_1), (Rw Kf 32 (Vs wa0_2) a0_2), ⟨.pointer (some wa1), [(Vi a1_0), (Vi a1_1), (Sl Kf a1_2), (Vi a1_3)], 138, none⟩] (fun w : Gs × Gs => (Vp wa0)) (fun w => [⟨.pointer (some wa0), [(Vi out.1), (Vl (Vs w.1)), (Vl (Vs w.2))], 150, none⟩, (Rw Kf 32 (Vs w.1) out.2.1), (Rw Kf 32 (Vs w.2) out.2.2.1), ⟨.pointer (some wa1), [(Vi out.2.2.2.1), (Vi out.2.2.2.2.1), (Sl Kf out.2.2.2.2.2.1), (Vi out.2.2.2.2.2.2)], 138, none⟩]) := by
 unfold gogeom_Bounds_Extend_v2 at hp
 refine fn_of Try.func55 rfl Try.ntmps55 rfl fun E hM => ?_
 refine cr fun K1 hK1 => ?_
 refine s0 (rd_assign' rfl) ?_
 refine nk hK1 ?_
 refine cr fun K2 hK2 => ?_
 refine s0 (rd_move' rfl) ?_
 refine s0 (rd_move' rfl) ?_
 obtain ⟨r7, hr7, hp⟩ := bind_some hp
 refine sx_ox' (ox_callg' (ent_inv' rfl rfl (inv_ptr0 (inv75_Layout _))) (gogeom_geom0_Layout_v2_sim _ _ _ _ hr7 : Sx.Fn Try.prog 134 [(Vp wa1)] [⟨.pointer (some wa1), [(Vi a1_0), (Vi a1_1), (Sl Kf a1_2), (Vi a1_3)], 138, none⟩] (fun x : Unit => (Vi r7.1)) (fun x => [⟨.pointer (some wa1), [(Vi r7.1), (Vi r7.2.1), (Sl Kf r7.2.2.1), (Vi r7.2.2.2)], 138, none⟩])) [3] [0, 1, 2] (by decide) (pick_cons rfl pick_nil) (pick_cons rfl (pick_cons rfl (pick_cons rfl pick_nil))) (Hn := fun x : Unit => [⟨.pointer (some wa1), [(Vi r7.1), (Vi r7.2.1), (Sl Kf r7.2.2.1), (Vi r7.2.2.2)], 138, none⟩, ⟨.pointer (some wa0), [(Vi a0_0), (Vl (Vs wa0_1)), (Vl (Vs wa0_2))], 150, none⟩, (Rw Kf 32 (Vs wa0_1) a0_1), (Rw Kf 32 (Vs wa0_2) a0_2)]) (fun _ => rfl) rfl rfl) (wt_none' rfl) fun ⟨⟩ => ?_
 obtain ⟨r8, hr8, hp⟩ := bind_some hp
 refine sx_ox' (ox_callg' (ent_fn' Try.func86 isn86 rfl rfl) (gogeom_Bounds_extendLayout_sim _ _ _ _ hr8 : Sx.Fn Try.prog 86 [(Vp wa0), (Vi r7.1)] [⟨.pointer (some wa0), [(Vi a0_0), (Vl (Vs wa0_1)), (Vl (Vs wa0_2))], 150, none⟩, (Rw Kf 32 (Vs wa0_1) a0_1), (Rw Kf 32 (Vs wa0_2) a0_2)] (fun x : Gs × Gs => (Vl (.tuple #[]))) (fun x => [⟨.pointer (some wa0), [(Vi r8.1), (Vl (Vs x.1)), (Vl (Vs x.2))], 150, none⟩, (Rw Kf 32 (Vs x.1) r8.2.1), (Rw Kf 32 (Vs x.2) r8.2.2)])) [1, 2, 3] [0] (by decide) (pick_cons rfl (pick_cons rfl (pick_cons rfl pick_nil))) (pick_cons rfl pick_nil) (Hn := fun x : Gs × Gs => [⟨.pointer (some wa0), [(Vi r8.1), (Vl (Vs x.1)), (Vl (Vs x.2))], 150, none⟩, (Rw Kf 32 (Vs x.1) r8.2.1), (Rw Kf 32 (Vs x.2) r8.2.2), ⟨.pointer (some wa1), [(Vi r7.1), (Vi r7.2.1), (Sl Kf r7.2.2.1), (Vi r7.2.2.2)], 138, none⟩]) (fun _ => rfl) rfl rfl) (wt_none' rfl) fun ⟨g8, gz1⟩ => ?_
 refine nk hK2 ?_
 refine cx_seq' fun K3 hK3 => ?_
 refine cr fun K4 hK4 => ?_
 refine s0 (rd_move' rfl) ?_
 refine s0 (rd_nilck' rfl) ?_
 refine s0 (rd_field0' rfl Try.underlying150 rfl info61 rfl) ?_
 refine s0 (rd_load' (i := 0) (o := 0) rfl ⟨rfl, rfl, rfl, rfl⟩ rfl flat61) ?_
 refine s0 (rd_bin' rfl rfl eg_int ru_eql) ?_
 refine s0 (rd_move' rfl) ?_
 refine sx_cutn' 4 (fun (v1 : Int × Int × (List Nat) × Int × Bool) => (⟨35, [], [(0, (Vp wa0)), (1, (If 75 (Vp wa1))), (18, (Vb v1.2.2.2.2))], [⟨.pointer (some wa0), [(Vi r8.1), (Vl (Vs g8)), (Vl (Vs gz1))], 150, none⟩, (Rw Kf 32 (Vs g8) r8.2.1), (Rw Kf 32 (Vs gz1) r8.2.2), ⟨.pointer (some wa1), [(Vi v1.1), (Vi v1.2.1), (Sl Kf v1.2.2.1), (Vi v1.2.2.2.1)], 138, none⟩]⟩ : St)) (fun (v1 : Int × Int × (List Nat) × Int × Bool) => gogeom_Bounds_Extend_v2_j1 k r8 v1.1 v1.2.1 v1.2.2.1 v1.2.2.2.1 v1.2.2.2.2 = some out) ?_ ?_
 ·rintro ⟨x1, x2, x3, x4, x5⟩ hp
  replace hp : gogeom_Bounds_Extend_v2_j1 k r8 x1 x2 x3 x4 x5 = some out := hp
  unfold gogeom_Bounds_Extend_v2_j1 at hp
  refine nk hK4 ?_
  refine cx_cond' rfl (fun h2 => ?_) (fun h2 => ?_)
  ·replace hp := (br_t h2).symm.trans hp
   refine cr fun K6 hK6 => ?_
   refine s0 (rd_move' rfl) ?_
   refine s0 (rd_move' rfl) ?_
   obtain ⟨r21, hr21, hp⟩ := bind_some hp
   refine sx_ox' (ox_callg' (ent_inv' rfl rfl (inv_ptr0 (inv75_FlatCoords _))) (gogeom_geom0_FlatCoords_v2_sim _ _ _ _ hr21 : Sx.Fn Try.prog 133 [(Vp wa1)] [⟨.pointer (some wa1), [(Vi x1), (Vi x2), (Sl Kf x3), (Vi x4)], 138, none⟩] (fun x : Unit => (Sl Kf r21.2.2.1)) (fun x => [⟨.pointer (some wa1), [(Vi r21.1), (Vi r21.2.1), (Sl Kf r21.2.2.1), (Vi r21.2.2.2)], 138, none⟩])) [3] [0, 1, 2] (by decide) (pick_cons rfl pick_nil) (pick_cons rfl (pick_cons rfl (pick_cons rfl pick_nil))) (Hn := fun x : Unit => [⟨.pointer (some wa1), [(Vi r21.1), (Vi r21.2.1), (Sl Kf r21.2.2.1), (Vi r21.2.2.2)], 138, none⟩, ⟨.pointer (some wa0), [(Vi r8.1), (Vl (Vs g8)), (Vl (Vs gz1))], 150, none⟩, (Rw Kf 32 (Vs g8) r8.2.1), (Rw Kf 32 (Vs gz1) r8.2.2)]) (fun _ => rfl) rfl rfl) (wt_none' rfl) fun ⟨⟩ => ?_
   refine s0 (rd_move' rfl) ?_
   obtain ⟨r23, hr23, hp⟩ := bind_some hp
   refine sx_ox' (ox_callg' (ent_inv' rfl rfl (inv_ptr0 (inv75_FlatCoords _))) (gogeom_geom0_FlatCoords_v2_sim _ _ _ _ hr23 : Sx.Fn Try.prog 133 [(Vp wa1)] [⟨.pointer (some wa1), [(Vi r21.1), (Vi r21.2.1), (Sl Kf r21.2.2.1), (Vi r21.2.2.2)], 138, none⟩] (fun x : Unit => (Sl Kf r23.2.2.1)) (fun x => [⟨.pointer (some wa1), [(Vi r23.1), (Vi r23.2.1), (Sl Kf r23.2.2.1), (Vi r23.2.2.2)], 138, none⟩])) [0] [1, 2, 3] (by decide) (pick_cons rfl pick_nil) (pick_cons rfl (pick_cons rfl (pick_cons rfl pick_nil))) (Hn := fun x : Unit => [⟨.pointer (some wa1), [(Vi r23.1), (Vi r23.2.1), (Sl Kf r23.2.2.1), (Vi r23.2.2.2)], 138, none⟩, ⟨.pointer (some wa0), [(Vi r8.1), (Vl (Vs g8)), (Vl (Vs gz1))], 150, none⟩, (Rw Kf 32 (Vs g8) r8.2.1), (Rw Kf 32 (Vs gz1) r8.2.2)]) (fun _ => rfl) rfl rfl) (wt_none' rfl) fun ⟨⟩ => ?_
   refine s0 (rd_len' rfl Try.underlying22) ?_
   obtain ⟨r25, hr25, hp⟩ := bind_some hp
   refine sx_ox' (ox_callg' (ent_fn' Try.func87 isn87 rfl rfl) (gogeom_Bounds_extendXYZMFlatCoordsWithXYM_sim _ _ _ _ _ _ hr25 : Sx.Fn Try.prog 87 [(Vp wa0), (Sl Kf r21.2.2.1), (Vi 0), (Vi (r23.2.2.1.length : Int))] [⟨.pointer (some wa0), [(Vi r8.1), (Vl (Vs g8)), (Vl (Vs gz1))], 150, none⟩, (Rw Kf 32 (Vs g8) r8.2.1), (Rw Kf 32 (Vs gz1) r8.2.2)] (fun x : Unit => (Vp wa0)) (fun x => [⟨.pointer (some wa0), [(Vi r25.1), (Vl (Vs g8)), (Vl (Vs gz1))], 150, none⟩, (Rw Kf 32 (Vs g8) r25.2.1), (Rw Kf 32 (Vs gz1) r25.2.2)])) [1, 2, 3] [0] (by decide) (pick_cons rfl (pick_cons rfl (pick_cons rfl pick_nil))) (pick_cons rfl pick_nil) (Hn := fun x : Unit => [⟨.pointer (some wa0), [(Vi r25.1), (Vl (Vs g8)), (Vl (Vs gz1))], 150, none⟩, (Rw Kf 32 (Vs g8) r25.2.1), (Rw Kf 32 (Vs gz1) r25.2.2), ⟨.pointer (some wa1), [(Vi r23.1), (Vi r23.2.1), (Sl Kf r23.2.2.1), (Vi r23.2.2.2)], 138, none⟩]) (fun _ => rfl) rfl rfl) (wt_none' rfl) fun ⟨⟩ => ?_
   refine s0 (rd_assign' rfl) ?_
   refine nk hK6 ?_
   refine cx_retc' ?_
   replace hp := Option.some.inj hp
   subst hp
   refine tx_pick' (L' := [(4, (Vp wa0))]) (H' := [⟨.pointer (some wa0), [(Vi r25.1), (Vl (Vs g8)), (Vl (Vs gz1))], 150, none⟩, (Rw Kf 32 (Vs g8) r25.2.1), (Rw Kf 32 (Vs gz1) r25.2.2), ⟨.pointer (some wa1), [(Vi r23.1), (Vi r23.2.1), (Sl Kf r23.2.2.1), (Vi r23.2.2.2)], 138, none⟩]) [0, 1, 2, 3] (sub_cons rfl sub_nil) (by decide) (pick_cons rfl (pick_cons rfl (pick_cons rfl (pick_cons rfl pick_nil)))) ?_
   exact tx_ret1' Try.results55 rfl (g8, gz1) (rv_tmp' rfl) (List.Sublist.refl _)
  replace hp := (br_f h2).symm.trans hp
  refine cx_skip' ?_
  show TX E K3 _
  refine tx_k' hK3 ?_
  refine cr fun K7 hK7 => ?_
  refine s0 (rd_move' rfl) ?_
  refine s0 (rd_move' rfl) ?_
  obtain ⟨r28, hr28, hp⟩ := bind_some hp
  refine sx_ox' (ox_callg' (ent_inv' rfl rfl (inv_ptr0 (inv75_FlatCoords _))) (gogeom_geom0_FlatCoords_v2_sim _ _ _ _ hr28 : Sx.Fn Try.prog 133 [(Vp wa1)] [⟨.pointer (some wa1), [(Vi x1), (Vi x2), (Sl Kf x3), (Vi x4)], 138, none⟩] (fun x : Unit => (Sl Kf r28.2.2.1)) (fun x => [⟨.pointer (some wa1), [(Vi r28.1), (Vi r28.2.1), (Sl Kf r28.2.2.1), (Vi r28.2.2.2)], 138, none⟩])) [3] [0, 1, 2] (by decide) (pick_cons rfl pick_nil) (pick_cons rfl (pick_cons rfl (pick_cons rfl pick_nil))) (Hn := fun x : Unit => [⟨.pointer (some wa1), [(Vi r28.1), (Vi r28.2.1), (Sl Kf r28.2.2.1), (Vi r28.2.2.2)], 138, none⟩, ⟨.pointer (some wa0), [(Vi r8.1), (Vl (Vs g8)), (Vl (Vs gz1))], 150, none⟩, (Rw Kf 32 (Vs g8) r8.2.1), (Rw Kf 32 (Vs gz1) r8.2.2)]) (fun _ => rfl) rfl rfl) (wt_none' rfl) fun ⟨⟩ => ?_
  refine s0 (rd_move' rfl) ?_
  obtain ⟨r30, hr30, hp⟩ := bind_some hp
  refine sx_ox' (ox_callg' (ent_inv' rfl rfl (inv_ptr0 (inv75_FlatCoords _))) (gogeom_geom0_FlatCoords_v2_sim _ _ _ _ hr30 : Sx.Fn Try.prog 133 [(Vp wa1)] [⟨.pointer (some wa1), [(Vi r28.1), (Vi r28.2.1), (Sl Kf r28.2.2.1), (Vi r28.2.2.2)], 138, none⟩] (fun x : Unit => (Sl Kf r30.2.2.1)) (fun x => [⟨.pointer (some wa1), [(Vi r30.1), (Vi r30.2.1), (Sl Kf r30.2.2.1), (Vi r30.2.2.2)], 138, none⟩])) [0] [1, 2, 3] (by decide) (pick_cons rfl pick_nil) (pick_cons rfl (pick_cons rfl (pick_cons rfl pick_nil))) (Hn := fun x : Unit => [⟨.pointer (some wa1), [(Vi r30.1), (Vi r30.2.1), (Sl Kf r30.2.2.1), (Vi r30.2.2.2)], 138, none⟩, ⟨.pointer (some wa0), [(Vi r8.1), (Vl (Vs g8)), (Vl (Vs gz1))], 150, none⟩, (Rw Kf 32 (Vs g8) r8.2.1), (Rw Kf 32 (Vs gz1) r8.2.2)]) (fun _ => rfl) rfl rfl) (wt_none' rfl) fun ⟨⟩ => ?_
  refine s0 (rd_len' rfl Try.underlying22) ?_
  refine s0 (rd_move' rfl) ?_
  obtain ⟨r33, hr33, hp⟩ := bind_some hp
  refine sx_ox' (ox_callg' (ent_inv' rfl rfl (inv_ptr0 (inv75_Stride _))) (gogeom_geom0_Stride_v2_sim _ _ _ _ hr33 : Sx.Fn Try.prog 137 [(Vp wa1)] [⟨.pointer (some wa1), [(Vi r30.1), (Vi r30.2.1), (Sl Kf r30.2.2.1), (Vi r30.2.2.2)], 138, none⟩] (fun x : Unit => (Vi r33.2.1)) (fun x => [⟨.pointer (some wa1), [(Vi r33.1), (Vi r33.2.1), (Sl Kf r33.2.2.1), (Vi r33.2.2.2)], 138, none⟩])) [0] [1, 2, 3] (by decide) (pick_cons rfl pick_nil) (pick_cons rfl (pick_cons rfl (pick_cons rfl pick_nil))) (Hn := fun x : Unit => [⟨.pointer (some wa1), [(Vi r33.1), (Vi r33.2.1), (Sl Kf r33.2.2.1), (Vi r33.2.2.2)], 138, none⟩, ⟨.pointer (some wa0), [(Vi r8.1), (Vl (Vs g8)), (Vl (Vs gz1))], 150, none⟩, (Rw Kf 32 (Vs g8) r8.2.1), (Rw Kf 32 (Vs gz1) r8.2.2)]) (fun _ => rfl) rfl rfl) (wt_none' rfl) fun ⟨⟩ => ?_
  obtain ⟨r34, hr34, hp⟩ := bind_some hp
  refine sx_ox' (ox_callg' (ent_fn' Try.func88 isn88 rfl rfl) (gogeom_Bounds_extendFlatCoords_sim _ _ _ _ _ _ _ hr34 : Sx.Fn Try.prog 88 [(Vp wa0), (Sl Kf r28.2.2.1), (Vi 0), (Vi (r30.2.2.1.length : Int)), (Vi r33.2.1)] [⟨.pointer (some wa0), [(Vi r8.1), (Vl (Vs g8)), (Vl (Vs gz1))], 150, none⟩, (Rw Kf 32 (Vs g8) r8.2.1), (Rw Kf 32 (Vs gz1) r8.2.2)] (fun x : Gs × Gs => (Vp wa0)) (fun x => [⟨.pointer (some wa0), [(Vi r34.1), (Vl (Vs x.1)), (Vl (Vs x.2))], 150, none⟩, (Rw Kf 32 (Vs x.1) r34.2.1), (Rw Kf 32 (Vs x.2) r34.2.2)])) [1, 2, 3] [0] (by decide) (pick_cons rfl (pick_cons rfl (pick_cons rfl pick_nil))) (pick_cons rfl pick_nil) (Hn := fun x : Gs × Gs => [⟨.pointer (some wa0), [(Vi r34.1), (Vl (Vs x.1)), (Vl (Vs x.2))], 150, none⟩, (Rw Kf 32 (Vs x.1) r34.2.1), (Rw Kf 32 (Vs x.2) r34.2.2), ⟨.pointer (some wa1), [(Vi r33.1), (Vi r33.2.1), (Sl Kf r33.2.2.1), (Vi r33.2.2.2)], 138, none⟩]) (fun _ => rfl) rfl rfl) (wt_none' rfl) fun ⟨g34, gz2⟩ => ?_
  refine s0 (rd_assign' rfl) ?_
  refine nk hK7 ?_
  refine cx_retc' ?_
  replace hp := Option.some.inj hp
  subst hp
  refine tx_pick' (L' := [(4, (Vp wa0))]) (H' := [⟨.pointer (some wa0), [(Vi r34.1), (Vl (Vs g34)), (Vl (Vs gz2))], 150, none⟩, (Rw Kf 32 (Vs g34) r34.2.1), (Rw Kf 32 (Vs gz2) r34.2.2), ⟨.pointer (some wa1), [(Vi r33.1), (Vi r33.2.1), (Sl Kf r33.2.2.1), (Vi r33.2.2.2)], 138, none⟩]) [0, 1, 2, 3] (sub_cons rfl sub_nil) (by decide) (pick_cons rfl (pick_cons rfl (pick_cons rfl (pick_cons rfl pick_nil)))) ?_
  exact tx_ret1' Try.results55 rfl (g34, gz2) (rv_tmp' rfl) (List.Sublist.refl _)
 intro K5 hK5
 rcases br_cases hp with ⟨h1, hp⟩ | ⟨h1, hp⟩
 ·refine sx_rd' (rd_move' rfl) rfl rfl (wt_is' (wt_guard' rfl rfl rfl) (beq_tt h1)) ?_
  obtain ⟨r16, hr16, hp⟩ := bind_some hp
  refine sx_ox' (ox_callg' (ent_inv' rfl rfl (inv_ptr0 (inv75_Layout _))) (gogeom_geom0_Layout_v2_sim _ _ _ _ hr16 : Sx.Fn Try.prog 134 [(Vp wa1)] [⟨.pointer (some wa1), [(Vi r7.1), (Vi r7.2.1), (Sl Kf r7.2.2.1), (Vi r7.2.2.2)], 138, none⟩] (fun x : Unit => (Vi r16.1)) (fun x => [⟨.pointer (some wa1), [(Vi r16.1), (Vi r16.2.1), (Sl Kf r16.2.2.1), (Vi r16.2.2.2)], 138, none⟩])) [3] [0, 1, 2] (by decide) (pick_cons rfl pick_nil) (pick_cons rfl (pick_cons rfl (pick_cons rfl pick_nil))) (Hn := fun x : Unit => [⟨.pointer (some wa1), [(Vi r16.1), (Vi r16.2.1), (Sl Kf r16.2.2.1), (Vi r16.2.2.2)], 138, none⟩, ⟨.pointer (some wa0), [(Vi r8.1), (Vl (Vs g8)), (Vl (Vs gz1))], 150, none⟩, (Rw Kf 32 (Vs g8) r8.2.1), (Rw Kf 32 (Vs gz1) r8.2.2)]) (fun _ => rfl) rfl rfl) (wt_is' (wt_guard' rfl rfl rfl) (beq_tt h1)) fun ⟨⟩ => ?_
  refine sx_rd' (rd_bin' rfl rfl eg_int ru_eql) rfl rfl (wt_is' (wt_guard' rfl rfl rfl) (beq_tt h1)) ?_
  refine s0 (rd_pick_true' rfl h1 rfl) ?_
  refine sx_nil' ?_
  show TX E K5 _
  exact tx_pick' [1, 2, 3, 0] (sub_cons rfl (sub_cons rfl (sub_cons rfl sub_nil))) (by decide) (pick_cons rfl (pick_cons rfl (pick_cons rfl (pick_cons rfl pick_nil)))) (hK5 (r16.1, r16.2.1, r16.2.2.1, r16.2.2.2, (decide (r16.1 = 3))) hp)
 refine sx_skip' rfl rfl (wt_is' (wt_guard' rfl rfl rfl) (beq_ft h1)) ?_
 refine sx_skip' rfl rfl (wt_is' (wt_guard' rfl rfl rfl) (beq_ft h1)) ?_
 refine sx_skip' rfl rfl (wt_is' (wt_guard' rfl rfl rfl) (beq_ft h1)) ?_
 refine s0 (rd_pick_false' rfl h1 rfl) ?_
 refine sx_nil' ?_
 show TX E K5 _
 exact tx_pick' [0, 1, 2, 3] (sub_cons rfl (sub_cons rfl (sub_cons rfl sub_nil))) (by decide) (pick_cons rfl (pick_cons rfl (pick_cons rfl (pick_cons rfl pick_nil)))) (hK5 (r7.1, r7.2.1, r7.2.2.1, r7.2.2.2, false) hp)

def gogeom_geom0_Layout_v3 (k : Nat) (a0_0 : Int) (a0_1 : Int) (a0_2 : List Nat) (a0_3 : Int) : Option (Int × Int × (List Nat) × Int) :=
 some (a0_0, a0_1, a0_2, a0_3)

theorem gogeom_geom0_Layout_v3_sim {k : Nat} {wa0 : Addr} (a0_0 : Int) (a0_1 : Int) (a0_2 : List Nat) (a0_3 : Int) {out : Int × Int × (List Nat) × Int} (hp : gogeom_geom0_Layout_v3 k a0_0 a0_1 a0_2 a0_3 = some out) : Sx.Fn Try.prog 134 [(Vp wa0)] [⟨.pointer (some wa0), [(Vi a0_0), (Vi a0_1), (Sl Kf a0_2), (Vi a0_3)], 128, none⟩] (fun w : Unit => (Vi out.1)) (fun w => [⟨.pointer (some wa0), [(Vi out.1), (Vi out.2.1), (Sl Kf out.2.2.1), (Vi out.2.2.2)], 128, none⟩]) := by
 unfold gogeom_geom0_Layout_v3 at hp
 refine fn_of Try.func134 rfl Try.ntmps134 rfl fun E hM => ?_
 refine cr fun K1 hK1 => ?_
 refine s0 (rd_assign' rfl) ?_
 refine nk hK1 ?_
 refine cr fun K2 hK2 => ?_
 refine s0 (rd_move' rfl) ?_
 refine s0 (rd_nilck' rfl) ?_
 refine s0 (rd_field0' rfl Try.underlying124 rfl info61 rfl) ?_
 refine s0 (rd_load' (i := 0) (o := 0) rfl ⟨rfl, rfl, rfl, rfl⟩ rfl flat61) ?_
 refine s0 (rd_assign' rfl) ?_
 refine nk hK2 ?_
 refine cx_retc' ?_
 replace hp := Option.some.inj hp
 subst hp
 refine tx_pick' (L' := [(2, (Vi a0_0))]) (H' := [⟨.pointer (some wa0), [(Vi a0_0), (Vi a0_1), (Sl Kf a0_2), (Vi a0_3)], 128, none⟩]) [0] (sub_cons rfl sub_nil) (by decide) (pick_cons rfl pick_nil) ?_
 exact tx_ret1' Try.results134 rfl () (rv_tmp' rfl) (List.Sublist.refl _)

def gogeom_geom0_FlatCoords_v3 (k : Nat) (a0_0 : Int) (a0_1 : Int) (a0_2 : List Nat) (a0_3 : Int) : Option (Int × Int × (List Nat) × Int) :=
 some (a0_0, a0_1, a0_2, a0_3)

theorem gogeom_geom0_FlatCoords_v3_sim {k : Nat} {wa0 : Addr} (a0_0 : Int) (a0_1 : Int) (a0_2 : List Nat) (a0_3 : Int) {out : Int × Int × (List Nat) × Int} (hp : gogeom_geom0_FlatCoords_v3 k a0_0 a0_1 a0_2 a0_3 = some out) : Sx.Fn Try.prog 133 [(Vp wa0)] [⟨.pointer (some wa0), [(Vi a0_0), (Vi a0_1), (Sl Kf a0_2), (Vi a0_3)], 128, none⟩] (fun w : Unit => (Sl Kf out.2.2.1)) (fun w => [⟨.pointer (some wa0), [(Vi out.1), (Vi out.2.1), (Sl Kf out.2.2.1), (Vi out.2.2.2)], 128, none⟩]) := by
 unfold gogeom_geom0_FlatCoords_v3 at hp
 refine fn_of Try.func133 rfl Try.ntmps133 rfl fun E hM => ?_
 refine cr fun K1 hK1 => ?_
 refine s0 (rd_assign' rfl) ?_
 refine nk hK1 ?_
 refine cr fun K2 hK2 => ?_
 refine s0 (rd_move' rfl) ?_
 refine s0 (rd_nilck' rfl) ?_
 refine s0 (rd_field' (off := 2) rfl Try.underlying124 rfl info22 rfl) ?_
 refine s0 (rd_load' (i := 0) (o := 2) rfl ⟨rfl, rfl, rfl, rfl⟩ rfl flat22) ?_
 refine s0 (rd_assign' rfl) ?_
 refine nk hK2 ?_
 refine cx_retc' ?_
 replace hp := Option.some.inj hp
 subst hp
 refine tx_pick' (L' := [(2, (Sl Kf a0_2))]) (H' := [⟨.pointer (some wa0), [(Vi a0_0), (Vi a0_1), (Sl Kf a0_2), (Vi a0_3)], 128, none⟩]) [0] (sub_cons rfl sub_nil) (by decide) (pick_cons rfl pick_nil) ?_
 exact tx_ret1' Try.results133 rfl () (rv_tmp' rfl) (List.Sublist.refl _)

def gogeom_geom0_Stride_v3 (k : Nat) (a0_0 : Int) (a0_1 : Int) (a0_2 : List Nat) (a0_3 : Int) : Option (Int × Int × (List Nat) × Int) :=
 some (a0_0, a0_1, a0_2, a0_3)

theorem gogeom_geom0_Stride_v3_sim {k : Nat} {wa0 : Addr} (a0_0 : Int) (a0_1 : Int) (a0_2 : List Nat) (a0_3 : Int) {out : Int × Int × (List Nat) × Int} (hp : gogeom_geom0_Stride_v3 k a0_0 a0_1 a0_2 a0_3 = some out) : Sx.Fn Try.prog 137 [(Vp wa0)] [⟨.pointer (some wa0), [(Vi a0_0), (Vi a0_1), (Sl Kf a0_2), (Vi a0_3)], 128, none⟩] (fun w : Unit => (Vi out.2.1)) (fun w => [⟨.pointer (some wa0), [(Vi out.1), (Vi out.2.1), (Sl Kf out.2.2.1), (Vi out.2.2.2)], 128, none⟩]) := by
 unfold gogeom_geom0_Stride_v3 at hp
 refine fn_of Try.func137 rfl Try.ntmps137 rfl fun E hM => ?_
 refine cr fun K1 hK1 => ?_
 refine s0 (rd_assign' rfl) ?_
 refine nk hK1 ?_
 refine cr fun K2 hK2 => ?_
 refine s0 (rd_move' rfl) ?_
 refine s0 (rd_nilck' rfl) ?_
 refine s0 (rd_field' (off := 1) rfl Try.underlying124 rfl info3 rfl) ?_
 refine s0 (rd_load' (i := 0) (o := 1) rfl ⟨rfl, rfl, rfl, rfl⟩ rfl flat3) ?_
 refine s0 (rd_assign' rfl) ?_
 refine nk hK2 ?_
 refine cx_retc' ?_
 replace hp := Option.some.inj hp
 subst hp
 refine tx_pick' (L' := [(2, (Vi a0_1))]) (H' := [⟨.pointer (some wa0), [(Vi a0_0), (Vi a0_1), (Sl Kf a0_2), (Vi a0_3)], 128, none⟩]) [0] (sub_cons rfl sub_nil) (by decide) (pick_cons rfl pick_nil) ?_
 exact tx_ret1' Try.results137 rfl () (rv_tmp' rfl) (List.Sublist.refl _)

end Go.Proofs.Ytmagcmeknclljaa
