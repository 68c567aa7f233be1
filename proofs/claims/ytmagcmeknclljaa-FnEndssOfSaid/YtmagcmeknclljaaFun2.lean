/-
  Plain functions for the Go functions that this law reaches, and that each call does what its plain function says. Printed by a program of ours.
-/
import Derived.Test.YtmagcmeknclljaaProg
import Derived.Test.YtmagcmeknclljaaSxZ
import Derived.Test.YtmagcmeknclljaaFun1
namespace Go.Proofs.Ytmagcmeknclljaa
open Go.Sx
set_option linter.unusedVariables false
set_option maxRecDepth 100000

def gogeom_NewMultiPointFlat_j2 (k : Nat) (r901 : Int × Int × (List Nat) × Int) (x5 : List Int) : Option (Int × Int × (List Nat) × Int × (List Int)) :=
  some (r901.1, r901.2.1, r901.2.2.1, r901.2.2.2, x5)
def gogeom_NewMultiPointFlat_l1s (x1 : Int) (r901 : Int × Int × (List Nat) × Int) (k : Nat) (rec1 : ((List Int) × Int) → Option ((List Int))) (x2 : List Int) (x3 : Int) : Option ((List Int)) :=
  br (decide (x3 < x1))
    ((idx x2 x3) >>= fun r106 =>
    rec1 ((x2.set x3.toNat (imul .i64 (iadd .i64 x3 1) r901.2.1)), (iadd .i64 x3 1)))
    (some x2)
def gogeom_NewMultiPointFlat_l1 (x1 : Int) (r901 : Int × Int × (List Nat) × Int) : Nat → ((List Int) × Int) → Option ((List Int))
  | 0, _ => none
  | k + 1, v => gogeom_NewMultiPointFlat_l1s x1 r901 k (gogeom_NewMultiPointFlat_l1 x1 r901 k) v.1 v.2
def gogeom_NewMultiPointFlat_j1 (k : Nat) (r901 : Int × Int × (List Nat) × Int) (x1 : Int) : Option (Int × Int × (List Nat) × Int × (List Int)) :=
  (mk 8 0 x1 x1) >>= fun r82 =>
  (gogeom_NewMultiPointFlat_l1 x1 r901 k (r82, 0)) >>= fun v3 =>
  gogeom_NewMultiPointFlat_j2 k r901 v3
def gogeom_NewMultiPointFlat (k : Nat) (a0 : Int) (a1 : List Nat) : Option (Int × Int × (List Nat) × Int × (List Int)) :=
  (gogeom_Layout_Stride k a0) >>= fun r22 =>
  (gogeom_NewMultiPointFlatOptionWithEnds_1 k a0 r22 a1 0) >>= fun r901 =>
  br (decide (0 < (r901.2.2.1.length : Int)))
    (br (decide (0 < r901.2.1))
      ((iquo .i64 (a1.length : Int) r901.2.1) >>= fun r79 =>
      gogeom_NewMultiPointFlat_j1 k r901 r79)
      (gogeom_NewMultiPointFlat_j1 k r901 0))
    (gogeom_NewMultiPointFlat_j2 k r901 [])

theorem gogeom_NewMultiPointFlat_sim {k : Nat} {wa2 : Addr} {wa2_0_0 : Addr} (a0 : Int) (a1 : List Nat) {out : Int × Int × (List Nat) × Int × (List Int)} (hp : gogeom_NewMultiPointFlat k a0 a1 = some out) : Go.Sx.Fn Try.prog 68 [(Vl (.int .i64 a0)), (Sl Kf a1), (Vl (.slice (some wa2) 1 1))] [⟨.slice (some wa2) 1 1, [(Vl (.func (.func 90) #[] ⟨[.pointer (some wa2_0_0)]⟩))], 101, some 1⟩, ⟨.pointer (some wa2_0_0), [(Vl (.slice none 0 0))], 23, none⟩] (fun w : Addr × Gs => (Vl (.pointer (some w.1)))) (fun w => [⟨.pointer (some wa2_0_0), [(Vl (.slice none 0 0))], 23, none⟩, ⟨.pointer (some w.1), [(Vl (.int .i64 out.1)), (Vl (.int .i64 out.2.1)), (Sl Kf out.2.2.1), (Vl (.int .i64 out.2.2.2.1)), (Vl (Vs w.2))], 136, none⟩, (Rw (Ki .i64) 3 (Vs w.2) out.2.2.2.2)]) := by
  unfold gogeom_NewMultiPointFlat at hp
  refine fn_of Try.func68 rfl Try.ntmps68 rfl fun E hM => ?_
  refine cx_seq' fun K1 hK1 => ?_
  refine cx_region' ?_
  refine sx_rd' (rd_assign' rfl) rfl rfl (wt_none' rfl) ?_
  refine sx_nil' ?_
  show TX E K1 _
  refine tx_k' hK1 ?_
  refine cx_seq' fun K2 hK2 => ?_
  refine cx_region' ?_
  refine sx_ox' (ox_alloc' info136 rfl rfl rfl rfl (l := [(Vl (.int .i64 0)), (Vl (.int .i64 0)), (Vl (.slice none 0 0)), (Vl (.int .i64 0)), (Vl (.slice none 0 0))]) rfl) (wt_none' rfl) fun q12 => ?_
  refine sx_rd' (rd_assign' rfl) rfl rfl (wt_none' rfl) ?_
  refine sx_nil' ?_
  show TX E K2 _
  refine tx_k' hK2 ?_
  refine cx_seq' fun K3 hK3 => ?_
  refine cx_region' ?_
  refine sx_rd' (rd_move' rfl) rfl rfl (wt_none' rfl) ?_
  refine sx_rd' (rd_move' rfl) rfl rfl (wt_none' rfl) ?_
  refine sx_rd' (rd_nilck' rfl) rfl rfl (wt_none' rfl) ?_
  refine sx_rd' (rd_field0' rfl Try.underlying136 rfl info130 rfl) rfl rfl (wt_none' rfl) ?_
  refine sx_rd' (rd_field0' rfl Try.underlying130 rfl info126 rfl) rfl rfl (wt_none' rfl) ?_
  refine sx_rd' (rd_field0' rfl Try.underlying126 rfl info124 rfl) rfl rfl (wt_none' rfl) ?_
  refine sx_rd' (rd_field0' rfl Try.underlying124 rfl info61 rfl) rfl rfl (wt_none' rfl) ?_
  refine sx_ox' (ox_store' (i := 0) (o := 0) rfl rfl (lv_vl rfl rfl) ⟨rfl, rfl, rfl, rfl⟩ rfl info61 rfl (H' := [⟨.pointer (some q12), [(Vl (.int .i64 a0)), (Vl (.int .i64 0)), (Vl (.slice none 0 0)), (Vl (.int .i64 0)), (Vl (.slice none 0 0))], 136, none⟩, ⟨.slice (some wa2) 1 1, [(Vl (.func (.func 90) #[] ⟨[.pointer (some wa2_0_0)]⟩))], 101, some 1⟩, ⟨.pointer (some wa2_0_0), [(Vl (.slice none 0 0))], 23, none⟩]) rfl) (wt_none' rfl) fun _ => ?_
  refine sx_nil' ?_
  show TX E K3 _
  refine tx_k' hK3 ?_
  refine cx_seq' fun K4 hK4 => ?_
  refine cx_region' ?_
  refine sx_rd' (rd_move' rfl) rfl rfl (wt_none' rfl) ?_
  refine sx_rd' (rd_move' rfl) rfl rfl (wt_none' rfl) ?_
  obtain ⟨r22, hr22, hp⟩ := bind_some hp
  refine sx_ox' (ox_calln' (ent_fn' Try.func89 isn89 rfl rfl) (gogeom_Layout_Stride_sim _ hr22 : Go.Sx.Fn Try.prog 89 [(Vl (.int .i64 a0))] [] (fun x : Unit => (Vl (.int .i64 r22))) (fun x => [])) (Hn := fun x : Unit => [⟨.pointer (some q12), [(Vl (.int .i64 a0)), (Vl (.int .i64 0)), (Vl (.slice none 0 0)), (Vl (.int .i64 0)), (Vl (.slice none 0 0))], 136, none⟩, ⟨.slice (some wa2) 1 1, [(Vl (.func (.func 90) #[] ⟨[.pointer (some wa2_0_0)]⟩))], 101, some 1⟩, ⟨.pointer (some wa2_0_0), [(Vl (.slice none 0 0))], 23, none⟩]) (fun _ => rfl) rfl rfl) (wt_none' rfl) fun ⟨⟩ => ?_
  refine sx_rd' (rd_nilck' rfl) rfl rfl (wt_none' rfl) ?_
  refine sx_rd' (rd_field0' rfl Try.underlying136 rfl info130 rfl) rfl rfl (wt_none' rfl) ?_
  refine sx_rd' (rd_field0' rfl Try.underlying130 rfl info126 rfl) rfl rfl (wt_none' rfl) ?_
  refine sx_rd' (rd_field0' rfl Try.underlying126 rfl info124 rfl) rfl rfl (wt_none' rfl) ?_
  refine sx_rd' (rd_field' (off := 1) rfl Try.underlying124 rfl info3 rfl) rfl rfl (wt_none' rfl) ?_
  refine sx_ox' (ox_store' (i := 0) (o := 1) rfl rfl (lv_vl rfl rfl) ⟨rfl, rfl, rfl, rfl⟩ rfl info3 rfl (H' := [⟨.pointer (some q12), [(Vl (.int .i64 a0)), (Vl (.int .i64 r22)), (Vl (.slice none 0 0)), (Vl (.int .i64 0)), (Vl (.slice none 0 0))], 136, none⟩, ⟨.slice (some wa2) 1 1, [(Vl (.func (.func 90) #[] ⟨[.pointer (some wa2_0_0)]⟩))], 101, some 1⟩, ⟨.pointer (some wa2_0_0), [(Vl (.slice none 0 0))], 23, none⟩]) rfl) (wt_none' rfl) fun _ => ?_
  refine sx_nil' ?_
  show TX E K4 _
  refine tx_k' hK4 ?_
  refine cx_seq' fun K5 hK5 => ?_
  refine cx_region' ?_
  refine sx_rd' (rd_move' rfl) rfl rfl (wt_none' rfl) ?_
  refine sx_rd' (rd_move' rfl) rfl rfl (wt_none' rfl) ?_
  refine sx_rd' (rd_nilck' rfl) rfl rfl (wt_none' rfl) ?_
  refine sx_rd' (rd_field0' rfl Try.underlying136 rfl info130 rfl) rfl rfl (wt_none' rfl) ?_
  refine sx_rd' (rd_field0' rfl Try.underlying130 rfl info126 rfl) rfl rfl (wt_none' rfl) ?_
  refine sx_rd' (rd_field0' rfl Try.underlying126 rfl info124 rfl) rfl rfl (wt_none' rfl) ?_
  refine sx_rd' (rd_field' (off := 2) rfl Try.underlying124 rfl info22 rfl) rfl rfl (wt_none' rfl) ?_
  refine sx_ox' (ox_store' (i := 0) (o := 2) rfl rfl (lv_sl _ _) ⟨rfl, rfl, rfl, rfl⟩ rfl info22 rfl (H' := [⟨.pointer (some q12), [(Vl (.int .i64 a0)), (Vl (.int .i64 r22)), (Sl Kf a1), (Vl (.int .i64 0)), (Vl (.slice none 0 0))], 136, none⟩, ⟨.slice (some wa2) 1 1, [(Vl (.func (.func 90) #[] ⟨[.pointer (some wa2_0_0)]⟩))], 101, some 1⟩, ⟨.pointer (some wa2_0_0), [(Vl (.slice none 0 0))], 23, none⟩]) rfl) (wt_none' rfl) fun _ => ?_
  refine sx_nil' ?_
  show TX E K5 _
  refine tx_k' hK5 ?_
  refine cx_seq' fun K6 hK6 => ?_
  refine cx_seq' fun K7 hK7 => ?_
  refine cx_region' ?_
  refine sx_rd' (rd_move' rfl) rfl rfl (wt_none' rfl) ?_
  refine sx_rd' (rd_lenv' rfl Try.underlying153) rfl rfl (wt_none' rfl) ?_
  refine sx_rd' (rd_move' rfl) rfl rfl (wt_none' rfl) ?_
  refine sx_nil' ?_
  show TX E K7 _
  refine tx_k' hK7 ?_
  refine cx_block' ?_
  refine tx_loop' ?_
  refine tx_round' ?_
  refine cx_seq' fun K8 hK8 => ?_
  refine cx_region' ?_
  refine sx_rd' (rd_bin' rfl rfl eg_int ru_lss) rfl rfl (wt_none' rfl) ?_
  refine sx_nil' ?_
  show TX E K8 _
  refine tx_k' hK8 ?_
  refine cx_seq' fun K9 hK9 => ?_
  refine cx_cond_t' rfl rfl ?_
  refine cx_skip' ?_
  show TX E K9 _
  refine tx_k' hK9 ?_
  refine cx_seq' fun K10 hK10 => ?_
  refine cx_block' ?_
  refine cx_seq' fun K11 hK11 => ?_
  refine cx_region' ?_
  refine sx_rd' (rd_atv' rfl rfl (by decide) (by decide) Try.underlying153 info101) rfl rfl (wt_none' rfl) ?_
  refine sx_rd' (rd_load_row' (i := 1) (o := 0) rfl ⟨rfl, rfl, rfl⟩ rfl flat101) rfl rfl (wt_none' rfl) ?_
  refine sx_rd' (rd_assign' rfl) rfl rfl (wt_none' rfl) ?_
  refine sx_nil' ?_
  show TX E K11 _
  refine tx_k' hK11 ?_
  refine cx_region' ?_
  refine sx_rd' (rd_move' rfl) rfl rfl (wt_none' rfl) ?_
  refine sx_rd' (rd_move' rfl) rfl rfl (wt_none' rfl) ?_
  obtain ⟨r901, hr901, hp⟩ := bind_some hp
  refine sx_ox' (ox_callg' (ent_clo' (us := [.pointer (some wa2_0_0)]) rfl Try.func90 isn90 rfl rfl) (gogeom_NewMultiPointFlatOptionWithEnds_1_sim _ _ _ _ hr901 : Go.Sx.Fn Try.prog 90 [(Vl (.pointer (some q12))), (Vl (.pointer (some wa2_0_0)))] [⟨.pointer (some q12), [(Vl (.int .i64 a0)), (Vl (.int .i64 r22)), (Sl Kf a1), (Vl (.int .i64 0)), (Vl (.slice none 0 0))], 136, none⟩, ⟨.pointer (some wa2_0_0), [(Vl (.slice none 0 0))], 23, none⟩] (fun x : Unit => (Vl (.tuple #[]))) (fun x => [⟨.pointer (some q12), [(Vl (.int .i64 r901.1)), (Vl (.int .i64 r901.2.1)), (Sl Kf r901.2.2.1), (Vl (.int .i64 r901.2.2.2)), (Vl (.slice none 0 0))], 136, none⟩, ⟨.pointer (some wa2_0_0), [(Vl (.slice none 0 0))], 23, none⟩])) [0, 2] [1] (by decide) (pick_cons rfl (pick_cons rfl pick_nil)) (pick_cons rfl pick_nil) (Hn := fun x : Unit => [⟨.pointer (some q12), [(Vl (.int .i64 r901.1)), (Vl (.int .i64 r901.2.1)), (Sl Kf r901.2.2.1), (Vl (.int .i64 r901.2.2.2)), (Vl (.slice none 0 0))], 136, none⟩, ⟨.pointer (some wa2_0_0), [(Vl (.slice none 0 0))], 23, none⟩, ⟨.slice (some wa2) 1 1, [(Vl (.func (.func 90) #[] ⟨[.pointer (some wa2_0_0)]⟩))], 101, some 1⟩]) (fun _ => rfl) rfl rfl) (wt_none' rfl) fun ⟨⟩ => ?_
  refine sx_nil' ?_
  show TX E K10 _
  refine tx_k' hK10 ?_
  refine cx_region' ?_
  refine sx_rd' (rd_bin' rfl rfl eg_int (ru_addc (c := 1) (by decide))) rfl rfl (wt_none' rfl) ?_
  refine sx_rd' (rd_move' rfl) rfl rfl (wt_none' rfl) ?_
  refine sx_nil' ?_
  show TX E (LoopIn _ _ _) _
  refine tx_round' ?_
  refine cx_seq' fun K12 hK12 => ?_
  refine cx_region' ?_
  refine sx_rd' (rd_bin' rfl rfl eg_int ru_lss) rfl rfl (wt_none' rfl) ?_
  refine sx_nil' ?_
  show TX E K12 _
  refine tx_k' hK12 ?_
  refine cx_seq' fun K13 hK13 => ?_
  refine cx_cond_f' rfl rfl ?_
  refine cx_exit' ?_
  show TX E K6 _
  refine tx_k' hK6 ?_
  refine cx_join' (fun (v4 : (List Int) × Gs) => (⟨109, [], [(7, (Vl (.pointer (some q12))))], [⟨.pointer (some q12), [(Vl (.int .i64 r901.1)), (Vl (.int .i64 r901.2.1)), (Sl Kf r901.2.2.1), (Vl (.int .i64 r901.2.2.2)), (Vl (Vs v4.2))], 136, none⟩, (Rw (Ki .i64) 3 (Vs v4.2) v4.1), ⟨.pointer (some wa2_0_0), [(Vl (.slice none 0 0))], 23, none⟩]⟩ : St)) (fun (v4 : (List Int) × Gs) => gogeom_NewMultiPointFlat_j2 k r901 v4.1 = some out) ?_ ?_
  · rintro ⟨x5, g901⟩ hp
    replace hp : gogeom_NewMultiPointFlat_j2 k r901 x5 = some out := hp
    unfold gogeom_NewMultiPointFlat_j2 at hp
    refine cx_seq' fun K29 hK29 => ?_
    refine cx_region' ?_
    refine sx_rd' (rd_move' rfl) rfl rfl (wt_none' rfl) ?_
    refine sx_rd' (rd_assign' rfl) rfl rfl (wt_none' rfl) ?_
    refine sx_nil' ?_
    show TX E K29 _
    refine tx_k' hK29 ?_
    refine cx_retc' ?_
    replace hp := Option.some.inj hp
    subst hp
    refine tx_pick' (L' := [(6, (Vl (.pointer (some q12))))]) (H' := [⟨.pointer (some wa2_0_0), [(Vl (.slice none 0 0))], 23, none⟩, ⟨.pointer (some q12), [(Vl (.int .i64 r901.1)), (Vl (.int .i64 r901.2.1)), (Sl Kf r901.2.2.1), (Vl (.int .i64 r901.2.2.2)), (Vl (Vs g901))], 136, none⟩, (Rw (Ki .i64) 3 (Vs g901) x5)]) [2, 0, 1] (sub_cons rfl sub_nil) (by decide) (pick_cons rfl (pick_cons rfl (pick_cons rfl pick_nil))) ?_
    exact tx_ret1' Try.results68 rfl (q12, g901) (rv_tmp' rfl) (List.Sublist.refl _)
  · intro K14 hK14
    refine cx_seq' fun K15 hK15 => ?_
    refine cx_region' ?_
    refine sx_rd' (rd_move' rfl) rfl rfl (wt_none' rfl) ?_
    refine sx_rd' (rd_nilck' rfl) rfl rfl (wt_none' rfl) ?_
    refine sx_rd' (rd_field0' rfl Try.underlying136 rfl info130 rfl) rfl rfl (wt_none' rfl) ?_
    refine sx_rd' (rd_field' (off := 4) rfl Try.underlying130 rfl info23 rfl) rfl rfl (wt_none' rfl) ?_
    refine sx_rd' (rd_load' (i := 0) (o := 4) rfl ⟨rfl, rfl, rfl, rfl⟩ rfl flat23) rfl rfl (wt_none' rfl) ?_
    refine sx_rd' (rd_binf' rfl rfl (bf_vl (fun _ => by kernel_rfl) nil_eql23_nilsl)) rfl rfl (wt_none' rfl) ?_
    refine sx_rd' (rd_move' rfl) rfl rfl (wt_none' rfl) ?_
    refine sx_rd' (rd_move' rfl) rfl rfl (wt_is' (wt_guard' rfl rfl rfl) (beq_tt rfl)) ?_
    refine sx_rd' (rd_nilck' rfl) rfl rfl (wt_is' (wt_guard' rfl rfl rfl) (beq_tt rfl)) ?_
    refine sx_rd' (rd_field0' rfl Try.underlying136 rfl info130 rfl) rfl rfl (wt_is' (wt_guard' rfl rfl rfl) (beq_tt rfl)) ?_
    refine sx_rd' (rd_field0' rfl Try.underlying130 rfl info126 rfl) rfl rfl (wt_is' (wt_guard' rfl rfl rfl) (beq_tt rfl)) ?_
    refine sx_rd' (rd_field0' rfl Try.underlying126 rfl info124 rfl) rfl rfl (wt_is' (wt_guard' rfl rfl rfl) (beq_tt rfl)) ?_
    refine sx_rd' (rd_field' (off := 2) rfl Try.underlying124 rfl info22 rfl) rfl rfl (wt_is' (wt_guard' rfl rfl rfl) (beq_tt rfl)) ?_
    refine sx_rd' (rd_load' (i := 0) (o := 2) rfl ⟨rfl, rfl, rfl, rfl⟩ rfl flat22) rfl rfl (wt_is' (wt_guard' rfl rfl rfl) (beq_tt rfl)) ?_
    refine sx_rd' (rd_len' rfl Try.underlying22) rfl rfl (wt_is' (wt_guard' rfl rfl rfl) (beq_tt rfl)) ?_
    refine sx_rd' (rd_bin' rfl rfl eg_int ru_gtr) rfl rfl (wt_is' (wt_guard' rfl rfl rfl) (beq_tt rfl)) ?_
    refine sx_rd' (rd_pick_true' rfl rfl rfl) rfl rfl (wt_none' rfl) ?_
    refine sx_nil' ?_
    show TX E K15 _
    refine tx_k' hK15 ?_
    refine cx_cond' rfl (fun h1 => ?_) (fun h1 => ?_)
    · replace hp := (br_t h1).symm.trans hp
      refine cx_seq' fun K16 hK16 => ?_
      refine cx_region' ?_
      refine sx_rd' (rd_assign' rfl) rfl rfl (wt_none' rfl) ?_
      refine sx_nil' ?_
      show TX E K16 _
      refine tx_k' hK16 ?_
      refine cx_join' (fun (v1 : Int) => (⟨109, [], [(7, (Vl (.pointer (some q12)))), (10, (Vl (.int .i64 v1)))], [⟨.pointer (some q12), [(Vl (.int .i64 r901.1)), (Vl (.int .i64 r901.2.1)), (Sl Kf r901.2.2.1), (Vl (.int .i64 r901.2.2.2)), (Vl (.slice none 0 0))], 136, none⟩, ⟨.pointer (some wa2_0_0), [(Vl (.slice none 0 0))], 23, none⟩]⟩ : St)) (fun (v1 : Int) => gogeom_NewMultiPointFlat_j1 k r901 v1 = some out) ?_ ?_
      · rintro x1 hp
        replace hp : gogeom_NewMultiPointFlat_j1 k r901 x1 = some out := hp
        unfold gogeom_NewMultiPointFlat_j1 at hp
        refine cx_seq' fun K19 hK19 => ?_
        refine cx_region' ?_
        refine sx_rd' (rd_move' rfl) rfl rfl (wt_none' rfl) ?_
        refine sx_rd' (rd_move' rfl) rfl rfl (wt_none' rfl) ?_
        obtain ⟨r82, hr82, hp⟩ := bind_some hp
        refine sx_ox' (ox_make' (K := (Ki .i64)) rfl rfl hr82 rfl Try.underlying23 info3 rfl rfl rfl rfl rfl) (wt_none' rfl) fun g82 => ?_
        refine sx_rd' (rd_nilck' rfl) rfl rfl (wt_none' rfl) ?_
        refine sx_rd' (rd_field0' rfl Try.underlying136 rfl info130 rfl) rfl rfl (wt_none' rfl) ?_
        refine sx_rd' (rd_field' (off := 4) rfl Try.underlying130 rfl info23 rfl) rfl rfl (wt_none' rfl) ?_
        refine sx_ox' (ox_store' (i := 1) (o := 4) rfl rfl (lv_vl rfl rfl) ⟨rfl, rfl, rfl, rfl⟩ rfl info23 rfl (H' := [(Rw (Ki .i64) 3 (Vs g82) r82), ⟨.pointer (some q12), [(Vl (.int .i64 r901.1)), (Vl (.int .i64 r901.2.1)), (Sl Kf r901.2.2.1), (Vl (.int .i64 r901.2.2.2)), (Vl (Vs g82))], 136, none⟩, ⟨.pointer (some wa2_0_0), [(Vl (.slice none 0 0))], 23, none⟩]) rfl) (wt_none' rfl) fun _ => ?_
        refine sx_nil' ?_
        show TX E K19 _
        refine tx_k' hK19 ?_
        refine cx_seq' fun K20 hK20 => ?_
        refine cx_region' ?_
        refine sx_rd' (rd_move' rfl) rfl rfl (wt_none' rfl) ?_
        refine sx_rd' (rd_move' rfl) rfl rfl (wt_none' rfl) ?_
        refine sx_nil' ?_
        show TX E K20 _
        refine tx_k' hK20 ?_
        refine cx_block' ?_
        obtain ⟨v3, hy1, hp⟩ := bind_some hp
        refine cx_loopg' (F := gogeom_NewMultiPointFlat_l1 x1 r901) (G := fun k R v => gogeom_NewMultiPointFlat_l1s x1 r901 k R v.1 v.2) (x := (r82, 0)) (gh := ()) (fun (v2 : (List Int) × Int) (w2 : Unit) => (⟨109, [], [(7, (Vl (.pointer (some q12)))), (86, (Vl (.int .i64 x1))), (87, (Vl (.int .i64 v2.2)))], [⟨.pointer (some q12), [(Vl (.int .i64 r901.1)), (Vl (.int .i64 r901.2.1)), (Sl Kf r901.2.2.1), (Vl (.int .i64 r901.2.2.2)), (Vl (Vs g82))], 136, none⟩, (Rw (Ki .i64) 3 (Vs g82) v2.1), ⟨.pointer (some wa2_0_0), [(Vl (.slice none 0 0))], 23, none⟩]⟩ : St)) (fun (v3 : (List Int)) => Zg E (Exit.exit 2) (fun (w3 : Unit) => (⟨109, [], [(7, (Vl (.pointer (some q12))))], [⟨.pointer (some q12), [(Vl (.int .i64 r901.1)), (Vl (.int .i64 r901.2.1)), (Sl Kf r901.2.2.1), (Vl (.int .i64 r901.2.2.2)), (Vl (Vs g82))], 136, none⟩, (Rw (Ki .i64) 3 (Vs g82) v3), ⟨.pointer (some wa2_0_0), [(Vl (.slice none 0 0))], 23, none⟩]⟩ : St))) (fun _ => rfl) (fun _ _ => rfl) ?_ hy1 (tx_to' rfl [1, 0, 2] (sub_cons rfl (sub_cons rfl (sub_cons rfl sub_nil))) (by decide) (pick_cons rfl (pick_cons rfl (pick_cons rfl pick_nil)))) ?_
        · clear hp hy1
          clear v3
          intro k rec1 KY1 ih1
          rintro ⟨x2, x3⟩ ⟨⟩ y1 hp
          replace hp : gogeom_NewMultiPointFlat_l1s x1 r901 k rec1 x2 x3 = some y1 := hp
          unfold gogeom_NewMultiPointFlat_l1s at hp
          refine cx_seq' fun K25 hK25 => ?_
          refine cx_region' ?_
          refine sx_rd' (rd_bin' rfl rfl eg_int ru_lss) rfl rfl (wt_none' rfl) ?_
          refine sx_nil' ?_
          show TX E K25 _
          refine tx_k' hK25 ?_
          refine cx_seq' fun K26 hK26 => ?_
          refine cx_cond' rfl (fun h5 => ?_) (fun h5 => ?_)
          · replace hp := (br_t h5).symm.trans hp
            refine cx_skip' ?_
            show TX E K26 _
            refine tx_k' hK26 ?_
            refine cx_seq' fun K27 hK27 => ?_
            refine cx_block' ?_
            refine cx_seq' fun K28 hK28 => ?_
            refine cx_region' ?_
            refine sx_rd' (rd_move' rfl) rfl rfl (wt_none' rfl) ?_
            refine sx_rd' (rd_assign' rfl) rfl rfl (wt_none' rfl) ?_
            refine sx_nil' ?_
            show TX E K28 _
            refine tx_k' hK28 ?_
            refine cx_plan' [] [(17, 1)] [(0, 1), (1, 1), (2, 1), (3, 1), (4, 1), (5, 1), (6, 1), (7, 1), (8, 1), (9, 1), (10, 1), (11, 1), (12, 1), (13, 1), (14, 1), (15, 1), (16, 1), (17, 0)] mixed (by kernel_rfl) ?_
            refine px_rd' rfl (rd_move' rfl) rfl rfl (wt_none' rfl) ?_
            refine px_rd' rfl (rd_nilck' rfl) rfl rfl (wt_none' rfl) ?_
            refine px_rd' rfl (rd_field0' rfl Try.underlying136 rfl info130 rfl) rfl rfl (wt_none' rfl) ?_
            refine px_rd' rfl (rd_field' (off := 4) rfl Try.underlying130 rfl info23 rfl) rfl rfl (wt_none' rfl) ?_
            refine px_rd' rfl (rd_load' (i := 0) (o := 4) rfl ⟨rfl, rfl, rfl, rfl⟩ rfl flat23) rfl rfl (wt_none' rfl) ?_
            refine px_rd' rfl (rd_move' rfl) rfl rfl (wt_none' rfl) ?_
            refine px_rd' rfl (rd_move' rfl) rfl rfl (wt_none' rfl) ?_
            refine px_rd' rfl (rd_bin' rfl rfl eg_int ru_add) rfl rfl (wt_none' rfl) ?_
            refine px_rd' rfl (rd_move' rfl) rfl rfl (wt_none' rfl) ?_
            refine px_rd' rfl (rd_nilck' rfl) rfl rfl (wt_none' rfl) ?_
            refine px_rd' rfl (rd_field0' rfl Try.underlying136 rfl info130 rfl) rfl rfl (wt_none' rfl) ?_
            refine px_rd' rfl (rd_field0' rfl Try.underlying130 rfl info126 rfl) rfl rfl (wt_none' rfl) ?_
            refine px_rd' rfl (rd_field0' rfl Try.underlying126 rfl info124 rfl) rfl rfl (wt_none' rfl) ?_
            refine px_rd' rfl (rd_field' (off := 1) rfl Try.underlying124 rfl info3 rfl) rfl rfl (wt_none' rfl) ?_
            refine px_rd' rfl (rd_load' (i := 0) (o := 1) rfl ⟨rfl, rfl, rfl, rfl⟩ rfl flat3) rfl rfl (wt_none' rfl) ?_
            refine px_rd' rfl (rd_bin' rfl rfl eg_int ru_mul) rfl rfl (wt_none' rfl) ?_
            obtain ⟨r106, hr106, hp⟩ := bind_some hp
            refine px_rd' rfl (rd_atr' (m := 1) rfl rfl rfl rfl hr106 Try.underlying23 info3) rfl rfl (wt_none' rfl) ?_
            refine px_ox' rfl (ox_storer' (m := 1) (i := x3) (j := 0) (x' := (imul .i64 (iadd .i64 x3 1) r901.2.1)) rfl rfl (lv_vl rfl rfl) rfl rfl hr106 rfl rfl rfl info3 rfl (H' := [⟨.pointer (some q12), [(Vl (.int .i64 r901.1)), (Vl (.int .i64 r901.2.1)), (Sl Kf r901.2.2.1), (Vl (.int .i64 r901.2.2.2)), (Vl (Vs g82))], 136, none⟩, (Rw (Ki .i64) 3 (Vs g82) (x2.set x3.toNat (imul .i64 (iadd .i64 x3 1) r901.2.1))), ⟨.pointer (some wa2_0_0), [(Vl (.slice none 0 0))], 23, none⟩]) rfl) rfl bs_nil (wt_none' rfl) fun _ => ?_
            refine px_nil' ?_
            show TX E K27 _
            refine tx_k' hK27 ?_
            refine cx_region' ?_
            refine sx_rd' (rd_bin' rfl rfl eg_int ru_add) rfl rfl (wt_none' rfl) ?_
            refine sx_rd' (rd_move' rfl) rfl rfl (wt_none' rfl) ?_
            refine sx_nil' ?_
            show TX E (KY1 _) _
            exact tx_pick' [0, 1, 2] (sub_cons rfl (sub_cons rfl (sub_cons rfl sub_nil))) (by decide) (pick_cons rfl (pick_cons rfl (pick_cons rfl pick_nil))) (ih1 ((x2.set x3.toNat (imul .i64 (iadd .i64 x3 1) r901.2.1)), (iadd .i64 x3 1)) () _ hp)
          · replace hp := (br_f h5).symm.trans hp
            refine cx_exit' ?_
            replace hp := Option.some.inj hp
            subst hp
            show TX E (Zg E (Exit.exit 2) _ (Exit.exit 2)) _
            exact tx_zend' () rfl [0, 1, 2] (sub_cons rfl sub_nil) (by decide) (pick_cons rfl (pick_cons rfl (pick_cons rfl pick_nil)))
        · refine zg_out fun w3 => ?_
          show TX E K14 _
          exact tx_pick' [0, 1, 2] (sub_cons rfl sub_nil) (by decide) (pick_cons rfl (pick_cons rfl (pick_cons rfl pick_nil))) (hK14 (v3, g82) hp)
      · intro K17 hK17
        refine cx_seq' fun K18 hK18 => ?_
        refine cx_region' ?_
        refine sx_rd' (rd_move' rfl) rfl rfl (wt_none' rfl) ?_
        refine sx_rd' (rd_nilck' rfl) rfl rfl (wt_none' rfl) ?_
        refine sx_rd' (rd_field0' rfl Try.underlying136 rfl info130 rfl) rfl rfl (wt_none' rfl) ?_
        refine sx_rd' (rd_field0' rfl Try.underlying130 rfl info126 rfl) rfl rfl (wt_none' rfl) ?_
        refine sx_rd' (rd_field0' rfl Try.underlying126 rfl info124 rfl) rfl rfl (wt_none' rfl) ?_
        refine sx_rd' (rd_field' (off := 1) rfl Try.underlying124 rfl info3 rfl) rfl rfl (wt_none' rfl) ?_
        refine sx_rd' (rd_load' (i := 0) (o := 1) rfl ⟨rfl, rfl, rfl, rfl⟩ rfl flat3) rfl rfl (wt_none' rfl) ?_
        refine sx_rd' (rd_bin' rfl rfl eg_int ru_gtr) rfl rfl (wt_none' rfl) ?_
        refine sx_nil' ?_
        show TX E K18 _
        refine tx_k' hK18 ?_
        refine cx_cond' rfl (fun h2 => ?_) (fun h2 => ?_)
        · replace hp := (br_t h2).symm.trans hp
          refine cx_region' ?_
          refine sx_rd' (rd_move' rfl) rfl rfl (wt_none' rfl) ?_
          refine sx_rd' (rd_len' rfl Try.underlying22) rfl rfl (wt_none' rfl) ?_
          refine sx_rd' (rd_move' rfl) rfl rfl (wt_none' rfl) ?_
          refine sx_rd' (rd_nilck' rfl) rfl rfl (wt_none' rfl) ?_
          refine sx_rd' (rd_field0' rfl Try.underlying136 rfl info130 rfl) rfl rfl (wt_none' rfl) ?_
          refine sx_rd' (rd_field0' rfl Try.underlying130 rfl info126 rfl) rfl rfl (wt_none' rfl) ?_
          refine sx_rd' (rd_field0' rfl Try.underlying126 rfl info124 rfl) rfl rfl (wt_none' rfl) ?_
          refine sx_rd' (rd_field' (off := 1) rfl Try.underlying124 rfl info3 rfl) rfl rfl (wt_none' rfl) ?_
          refine sx_rd' (rd_load' (i := 0) (o := 1) rfl ⟨rfl, rfl, rfl, rfl⟩ rfl flat3) rfl rfl (wt_none' rfl) ?_
          obtain ⟨r79, hr79, hp⟩ := bind_some hp
          refine sx_rd' (rd_bin' rfl rfl eg_int (ru_quo hr79)) rfl rfl (wt_none' rfl) ?_
          refine sx_rd' (rd_assign' rfl) rfl rfl (wt_none' rfl) ?_
          refine sx_nil' ?_
          show TX E K17 _
          exact tx_pick' [0, 1] (sub_cons rfl (sub_cons rfl sub_nil)) (by decide) (pick_cons rfl (pick_cons rfl pick_nil)) (hK17 r79 hp)
        · replace hp := (br_f h2).symm.trans hp
          refine cx_skip' ?_
          show TX E K17 _
          exact tx_pick' [0, 1] (sub_cons rfl (sub_cons rfl sub_nil)) (by decide) (pick_cons rfl (pick_cons rfl pick_nil)) (hK17 0 hp)
    · replace hp := (br_f h1).symm.trans hp
      refine cx_skip' ?_
      show TX E K14 _
      refine tx_nilrow' (Ki .i64) 3 ?_
      exact tx_pick' [1, 0, 2] (sub_cons rfl sub_nil) (by decide) (pick_cons rfl (pick_cons rfl (pick_cons rfl pick_nil))) (hK14 ([], (none, 0, 0)) hp)

def gogeom_MultiPoint_SetSRID (k : Nat) (a0_0 : Int) (a0_1 : Int) (a0_2 : List Nat) (a0_3 : Int) (a0_4 : List Int) (a1 : Int) : Option (Int × Int × (List Nat) × Int × (List Int)) :=
  some (a0_0, a0_1, a0_2, a1, a0_4)

theorem gogeom_MultiPoint_SetSRID_sim {k : Nat} {wa0 : Addr} {wa0_4 : Gs} (a0_0 : Int) (a0_1 : Int) (a0_2 : List Nat) (a0_3 : Int) (a0_4 : List Int) (a1 : Int) {out : Int × Int × (List Nat) × Int × (List Int)} (hp : gogeom_MultiPoint_SetSRID k a0_0 a0_1 a0_2 a0_3 a0_4 a1 = some out) : Go.Sx.Fn Try.prog 70 [(Vl (.pointer (some wa0))), (Vl (.int .i64 a1))] [⟨.pointer (some wa0), [(Vl (.int .i64 a0_0)), (Vl (.int .i64 a0_1)), (Sl Kf a0_2), (Vl (.int .i64 a0_3)), (Vl (Vs wa0_4))], 136, none⟩, (Rw (Ki .i64) 3 (Vs wa0_4) a0_4)] (fun w : Unit => (Vl (.pointer (some wa0)))) (fun w => [⟨.pointer (some wa0), [(Vl (.int .i64 out.1)), (Vl (.int .i64 out.2.1)), (Sl Kf out.2.2.1), (Vl (.int .i64 out.2.2.2.1)), (Vl (Vs wa0_4))], 136, none⟩, (Rw (Ki .i64) 3 (Vs wa0_4) out.2.2.2.2)]) := by
  unfold gogeom_MultiPoint_SetSRID at hp
  refine fn_of Try.func70 rfl Try.ntmps70 rfl fun E hM => ?_
  refine cx_seq' fun K1 hK1 => ?_
  refine cx_region' ?_
  refine sx_rd' (rd_assign' rfl) rfl rfl (wt_none' rfl) ?_
  refine sx_nil' ?_
  show TX E K1 _
  refine tx_k' hK1 ?_
  refine cx_seq' fun K2 hK2 => ?_
  refine cx_region' ?_
  refine sx_rd' (rd_move' rfl) rfl rfl (wt_none' rfl) ?_
  refine sx_rd' (rd_move' rfl) rfl rfl (wt_none' rfl) ?_
  refine sx_rd' (rd_nilck' rfl) rfl rfl (wt_none' rfl) ?_
  refine sx_rd' (rd_field0' rfl Try.underlying136 rfl info130 rfl) rfl rfl (wt_none' rfl) ?_
  refine sx_rd' (rd_field0' rfl Try.underlying130 rfl info126 rfl) rfl rfl (wt_none' rfl) ?_
  refine sx_rd' (rd_field0' rfl Try.underlying126 rfl info124 rfl) rfl rfl (wt_none' rfl) ?_
  refine sx_rd' (rd_field' (off := 3) rfl Try.underlying124 rfl info3 rfl) rfl rfl (wt_none' rfl) ?_
  refine sx_ox' (ox_store' (i := 0) (o := 3) rfl rfl (lv_vl rfl rfl) ⟨rfl, rfl, rfl, rfl⟩ rfl info3 rfl (H' := [⟨.pointer (some wa0), [(Vl (.int .i64 a0_0)), (Vl (.int .i64 a0_1)), (Sl Kf a0_2), (Vl (.int .i64 a1)), (Vl (Vs wa0_4))], 136, none⟩, (Rw (Ki .i64) 3 (Vs wa0_4) a0_4)]) rfl) (wt_none' rfl) fun _ => ?_
  refine sx_nil' ?_
  show TX E K2 _
  refine tx_k' hK2 ?_
  refine cx_seq' fun K3 hK3 => ?_
  refine cx_region' ?_
  refine sx_rd' (rd_move' rfl) rfl rfl (wt_none' rfl) ?_
  refine sx_rd' (rd_assign' rfl) rfl rfl (wt_none' rfl) ?_
  refine sx_nil' ?_
  show TX E K3 _
  refine tx_k' hK3 ?_
  refine cx_retc' ?_
  replace hp := Option.some.inj hp
  subst hp
  refine tx_pick' (L' := [(4, (Vl (.pointer (some wa0))))]) (H' := [⟨.pointer (some wa0), [(Vl (.int .i64 a0_0)), (Vl (.int .i64 a0_1)), (Sl Kf a0_2), (Vl (.int .i64 a1)), (Vl (Vs wa0_4))], 136, none⟩, (Rw (Ki .i64) 3 (Vs wa0_4) a0_4)]) [0, 1] (sub_cons rfl sub_nil) (by decide) (pick_cons rfl (pick_cons rfl pick_nil)) ?_
  exact tx_ret1' Try.results70 rfl () (rv_tmp' rfl) (List.Sublist.refl _)

def gogeom_NewMultiPointFlatOptionWithEnds_v2 (k : Nat) (a0 : List Int) : Option ((List Int)) :=
  some a0

theorem gogeom_NewMultiPointFlatOptionWithEnds_v2_sim {k : Nat}  (a0 : List Int) {out : (List Int)} (hp : gogeom_NewMultiPointFlatOptionWithEnds_v2 k a0 = some out) : Go.Sx.Fn Try.prog 69 [(Sl (Ki .i64) a0)] [] (fun w : Addr => (Vl (.func (.func 90) #[] ⟨[.pointer (some w)]⟩))) (fun w => [⟨.pointer (some w), [(Sl (Ki .i64) out)], 23, none⟩]) := by
  unfold gogeom_NewMultiPointFlatOptionWithEnds_v2 at hp
  refine fn_of Try.func69 rfl Try.ntmps69 rfl fun E hM => ?_
  refine cx_seq' fun K1 hK1 => ?_
  refine cx_region' ?_
  refine sx_ox' (ox_box' rfl (lv_sl _ _) rfl rfl) (wt_none' rfl) fun q1 => ?_
  refine sx_rd' (rd_assign' rfl) rfl rfl (wt_none' rfl) ?_
  refine sx_nil' ?_
  show TX E K1 _
  refine tx_k' hK1 ?_
  refine cx_seq' fun K2 hK2 => ?_
  refine cx_region' ?_
  refine sx_rd' (rd_mkfunc' (us := [.pointer (some q1)]) rfl) rfl rfl (wt_none' rfl) ?_
  refine sx_rd' (rd_assign' rfl) rfl rfl (wt_none' rfl) ?_
  refine sx_nil' ?_
  show TX E K2 _
  refine tx_k' hK2 ?_
  refine cx_retc' ?_
  replace hp := Option.some.inj hp
  subst hp
  refine tx_pick' (L' := [(2, (Vl (.func (.func 90) #[] ⟨[.pointer (some q1)]⟩)))]) (H' := [⟨.pointer (some q1), [(Sl (Ki .i64) a0)], 23, none⟩]) [0] (sub_cons rfl sub_nil) (by decide) (pick_cons rfl pick_nil) ?_
  exact tx_ret1' Try.results69 rfl q1 (rv_tmp' rfl) (List.Sublist.refl _)

def gogeom_NewMultiPointFlatOptionWithEnds_1_v2 (k : Nat) (a0_0 : Int) (a0_1 : Int) (a0_2 : List Nat) (a0_3 : Int) (a1_0 : List Int) : Option (Int × Int × (List Nat) × Int × (List Int)) :=
  some (a0_0, a0_1, a0_2, a0_3, a1_0)

theorem gogeom_NewMultiPointFlatOptionWithEnds_1_v2_sim {k : Nat} {wa0 : Addr} {wa1 : Addr} (a0_0 : Int) (a0_1 : Int) (a0_2 : List Nat) (a0_3 : Int) (a1_0 : List Int) {out : Int × Int × (List Nat) × Int × (List Int)} (hp : gogeom_NewMultiPointFlatOptionWithEnds_1_v2 k a0_0 a0_1 a0_2 a0_3 a1_0 = some out) : Go.Sx.Fn Try.prog 90 [(Vl (.pointer (some wa0))), (Vl (.pointer (some wa1)))] [⟨.pointer (some wa0), [(Vl (.int .i64 a0_0)), (Vl (.int .i64 a0_1)), (Sl Kf a0_2), (Vl (.int .i64 a0_3)), (Vl (.slice none 0 0))], 136, none⟩, ⟨.pointer (some wa1), [(Sl (Ki .i64) a1_0)], 23, none⟩] (fun w : Unit => (Vl (.tuple #[]))) (fun w => [⟨.pointer (some wa0), [(Vl (.int .i64 out.1)), (Vl (.int .i64 out.2.1)), (Sl Kf out.2.2.1), (Vl (.int .i64 out.2.2.2.1)), (Sl (Ki .i64) out.2.2.2.2)], 136, none⟩, ⟨.pointer (some wa1), [(Sl (Ki .i64) out.2.2.2.2)], 23, none⟩]) := by
  unfold gogeom_NewMultiPointFlatOptionWithEnds_1_v2 at hp
  refine fn_of Try.func90 rfl Try.ntmps90 rfl fun E hM => ?_
  refine cx_region' ?_
  refine sx_rd' (rd_move' rfl) rfl rfl (wt_none' rfl) ?_
  refine sx_rd' (rd_load' (i := 1) (o := 0) rfl ⟨rfl, rfl, rfl, rfl⟩ rfl flat23) rfl rfl (wt_none' rfl) ?_
  refine sx_rd' (rd_nilck' rfl) rfl rfl (wt_none' rfl) ?_
  refine sx_rd' (rd_field0' rfl Try.underlying136 rfl info130 rfl) rfl rfl (wt_none' rfl) ?_
  refine sx_rd' (rd_field' (off := 4) rfl Try.underlying130 rfl info23 rfl) rfl rfl (wt_none' rfl) ?_
  refine sx_ox' (ox_store' (i := 0) (o := 4) rfl rfl (lv_sl _ _) ⟨rfl, rfl, rfl, rfl⟩ rfl info23 rfl (H' := [⟨.pointer (some wa0), [(Vl (.int .i64 a0_0)), (Vl (.int .i64 a0_1)), (Sl Kf a0_2), (Vl (.int .i64 a0_3)), (Sl (Ki .i64) a1_0)], 136, none⟩, ⟨.pointer (some wa1), [(Sl (Ki .i64) a1_0)], 23, none⟩]) rfl) (wt_none' rfl) fun _ => ?_
  refine sx_nil' ?_
  replace hp := Option.some.inj hp
  subst hp
  refine tx_pick' (L' := []) (H' := [⟨.pointer (some wa0), [(Vl (.int .i64 a0_0)), (Vl (.int .i64 a0_1)), (Sl Kf a0_2), (Vl (.int .i64 a0_3)), (Sl (Ki .i64) a1_0)], 136, none⟩, ⟨.pointer (some wa1), [(Sl (Ki .i64) a1_0)], 23, none⟩]) [0, 1] sub_nil (by decide) (pick_cons rfl (pick_cons rfl pick_nil)) ?_
  exact tx_end0' Try.results90 rfl () rfl (List.Sublist.refl _)

def gogeom_NewMultiPointFlat_v2 (k : Nat) (a0 : Int) (a1 : List Nat) (a2_0_0_0 : List Int) : Option ((List Int) × Int × Int × (List Nat) × Int) :=
  (gogeom_Layout_Stride k a0) >>= fun r22 =>
  (gogeom_NewMultiPointFlatOptionWithEnds_1_v2 k a0 r22 a1 0 a2_0_0_0) >>= fun r901 =>
  (some1 r901.2.2.2.2) >>= fun z1 =>
  some (r901.2.2.2.2, r901.1, r901.2.1, r901.2.2.1, r901.2.2.2.1)

theorem gogeom_NewMultiPointFlat_v2_sim {k : Nat} {wa2 : Addr} {wa2_0_0 : Addr} (a0 : Int) (a1 : List Nat) (a2_0_0_0 : List Int) {out : (List Int) × Int × Int × (List Nat) × Int} (hp : gogeom_NewMultiPointFlat_v2 k a0 a1 a2_0_0_0 = some out) : Go.Sx.Fn Try.prog 68 [(Vl (.int .i64 a0)), (Sl Kf a1), (Vl (.slice (some wa2) 1 1))] [⟨.slice (some wa2) 1 1, [(Vl (.func (.func 90) #[] ⟨[.pointer (some wa2_0_0)]⟩))], 101, some 1⟩, ⟨.pointer (some wa2_0_0), [(Sl (Ki .i64) a2_0_0_0)], 23, none⟩] (fun w : Addr => (Vl (.pointer (some w)))) (fun w => [⟨.pointer (some wa2_0_0), [(Sl (Ki .i64) out.1)], 23, none⟩, ⟨.pointer (some w), [(Vl (.int .i64 out.2.1)), (Vl (.int .i64 out.2.2.1)), (Sl Kf out.2.2.2.1), (Vl (.int .i64 out.2.2.2.2)), (Sl (Ki .i64) out.1)], 136, none⟩]) := by
  unfold gogeom_NewMultiPointFlat_v2 at hp
  refine fn_of Try.func68 rfl Try.ntmps68 rfl fun E hM => ?_
  refine cx_seq' fun K1 hK1 => ?_
  refine cx_region' ?_
  refine sx_rd' (rd_assign' rfl) rfl rfl (wt_none' rfl) ?_
  refine sx_nil' ?_
  show TX E K1 _
  refine tx_k' hK1 ?_
  refine cx_seq' fun K2 hK2 => ?_
  refine cx_region' ?_
  refine sx_ox' (ox_alloc' info136 rfl rfl rfl rfl (l := [(Vl (.int .i64 0)), (Vl (.int .i64 0)), (Vl (.slice none 0 0)), (Vl (.int .i64 0)), (Vl (.slice none 0 0))]) rfl) (wt_none' rfl) fun q12 => ?_
  refine sx_rd' (rd_assign' rfl) rfl rfl (wt_none' rfl) ?_
  refine sx_nil' ?_
  show TX E K2 _
  refine tx_k' hK2 ?_
  refine cx_seq' fun K3 hK3 => ?_
  refine cx_region' ?_
  refine sx_rd' (rd_move' rfl) rfl rfl (wt_none' rfl) ?_
  refine sx_rd' (rd_move' rfl) rfl rfl (wt_none' rfl) ?_
  refine sx_rd' (rd_nilck' rfl) rfl rfl (wt_none' rfl) ?_
  refine sx_rd' (rd_field0' rfl Try.underlying136 rfl info130 rfl) rfl rfl (wt_none' rfl) ?_
  refine sx_rd' (rd_field0' rfl Try.underlying130 rfl info126 rfl) rfl rfl (wt_none' rfl) ?_
  refine sx_rd' (rd_field0' rfl Try.underlying126 rfl info124 rfl) rfl rfl (wt_none' rfl) ?_
  refine sx_rd' (rd_field0' rfl Try.underlying124 rfl info61 rfl) rfl rfl (wt_none' rfl) ?_
  refine sx_ox' (ox_store' (i := 0) (o := 0) rfl rfl (lv_vl rfl rfl) ⟨rfl, rfl, rfl, rfl⟩ rfl info61 rfl (H' := [⟨.pointer (some q12), [(Vl (.int .i64 a0)), (Vl (.int .i64 0)), (Vl (.slice none 0 0)), (Vl (.int .i64 0)), (Vl (.slice none 0 0))], 136, none⟩, ⟨.slice (some wa2) 1 1, [(Vl (.func (.func 90) #[] ⟨[.pointer (some wa2_0_0)]⟩))], 101, some 1⟩, ⟨.pointer (some wa2_0_0), [(Sl (Ki .i64) a2_0_0_0)], 23, none⟩]) rfl) (wt_none' rfl) fun _ => ?_
  refine sx_nil' ?_
  show TX E K3 _
  refine tx_k' hK3 ?_
  refine cx_seq' fun K4 hK4 => ?_
  refine cx_region' ?_
  refine sx_rd' (rd_move' rfl) rfl rfl (wt_none' rfl) ?_
  refine sx_rd' (rd_move' rfl) rfl rfl (wt_none' rfl) ?_
  obtain ⟨r22, hr22, hp⟩ := bind_some hp
  refine sx_ox' (ox_calln' (ent_fn' Try.func89 isn89 rfl rfl) (gogeom_Layout_Stride_sim _ hr22 : Go.Sx.Fn Try.prog 89 [(Vl (.int .i64 a0))] [] (fun x : Unit => (Vl (.int .i64 r22))) (fun x => [])) (Hn := fun x : Unit => [⟨.pointer (some q12), [(Vl (.int .i64 a0)), (Vl (.int .i64 0)), (Vl (.slice none 0 0)), (Vl (.int .i64 0)), (Vl (.slice none 0 0))], 136, none⟩, ⟨.slice (some wa2) 1 1, [(Vl (.func (.func 90) #[] ⟨[.pointer (some wa2_0_0)]⟩))], 101, some 1⟩, ⟨.pointer (some wa2_0_0), [(Sl (Ki .i64) a2_0_0_0)], 23, none⟩]) (fun _ => rfl) rfl rfl) (wt_none' rfl) fun ⟨⟩ => ?_
  refine sx_rd' (rd_nilck' rfl) rfl rfl (wt_none' rfl) ?_
  refine sx_rd' (rd_field0' rfl Try.underlying136 rfl info130 rfl) rfl rfl (wt_none' rfl) ?_
  refine sx_rd' (rd_field0' rfl Try.underlying130 rfl info126 rfl) rfl rfl (wt_none' rfl) ?_
  refine sx_rd' (rd_field0' rfl Try.underlying126 rfl info124 rfl) rfl rfl (wt_none' rfl) ?_
  refine sx_rd' (rd_field' (off := 1) rfl Try.underlying124 rfl info3 rfl) rfl rfl (wt_none' rfl) ?_
  refine sx_ox' (ox_store' (i := 0) (o := 1) rfl rfl (lv_vl rfl rfl) ⟨rfl, rfl, rfl, rfl⟩ rfl info3 rfl (H' := [⟨.pointer (some q12), [(Vl (.int .i64 a0)), (Vl (.int .i64 r22)), (Vl (.slice none 0 0)), (Vl (.int .i64 0)), (Vl (.slice none 0 0))], 136, none⟩, ⟨.slice (some wa2) 1 1, [(Vl (.func (.func 90) #[] ⟨[.pointer (some wa2_0_0)]⟩))], 101, some 1⟩, ⟨.pointer (some wa2_0_0), [(Sl (Ki .i64) a2_0_0_0)], 23, none⟩]) rfl) (wt_none' rfl) fun _ => ?_
  refine sx_nil' ?_
  show TX E K4 _
  refine tx_k' hK4 ?_
  refine cx_seq' fun K5 hK5 => ?_
  refine cx_region' ?_
  refine sx_rd' (rd_move' rfl) rfl rfl (wt_none' rfl) ?_
  refine sx_rd' (rd_move' rfl) rfl rfl (wt_none' rfl) ?_
  refine sx_rd' (rd_nilck' rfl) rfl rfl (wt_none' rfl) ?_
  refine sx_rd' (rd_field0' rfl Try.underlying136 rfl info130 rfl) rfl rfl (wt_none' rfl) ?_
  refine sx_rd' (rd_field0' rfl Try.underlying130 rfl info126 rfl) rfl rfl (wt_none' rfl) ?_
  refine sx_rd' (rd_field0' rfl Try.underlying126 rfl info124 rfl) rfl rfl (wt_none' rfl) ?_
  refine sx_rd' (rd_field' (off := 2) rfl Try.underlying124 rfl info22 rfl) rfl rfl (wt_none' rfl) ?_
  refine sx_ox' (ox_store' (i := 0) (o := 2) rfl rfl (lv_sl _ _) ⟨rfl, rfl, rfl, rfl⟩ rfl info22 rfl (H' := [⟨.pointer (some q12), [(Vl (.int .i64 a0)), (Vl (.int .i64 r22)), (Sl Kf a1), (Vl (.int .i64 0)), (Vl (.slice none 0 0))], 136, none⟩, ⟨.slice (some wa2) 1 1, [(Vl (.func (.func 90) #[] ⟨[.pointer (some wa2_0_0)]⟩))], 101, some 1⟩, ⟨.pointer (some wa2_0_0), [(Sl (Ki .i64) a2_0_0_0)], 23, none⟩]) rfl) (wt_none' rfl) fun _ => ?_
  refine sx_nil' ?_
  show TX E K5 _
  refine tx_k' hK5 ?_
  refine cx_seq' fun K6 hK6 => ?_
  refine cx_seq' fun K7 hK7 => ?_
  refine cx_region' ?_
  refine sx_rd' (rd_move' rfl) rfl rfl (wt_none' rfl) ?_
  refine sx_rd' (rd_lenv' rfl Try.underlying153) rfl rfl (wt_none' rfl) ?_
  refine sx_rd' (rd_move' rfl) rfl rfl (wt_none' rfl) ?_
  refine sx_nil' ?_
  show TX E K7 _
  refine tx_k' hK7 ?_
  refine cx_block' ?_
  refine tx_loop' ?_
  refine tx_round' ?_
  refine cx_seq' fun K8 hK8 => ?_
  refine cx_region' ?_
  refine sx_rd' (rd_bin' rfl rfl eg_int ru_lss) rfl rfl (wt_none' rfl) ?_
  refine sx_nil' ?_
  show TX E K8 _
  refine tx_k' hK8 ?_
  refine cx_seq' fun K9 hK9 => ?_
  refine cx_cond_t' rfl rfl ?_
  refine cx_skip' ?_
  show TX E K9 _
  refine tx_k' hK9 ?_
  refine cx_seq' fun K10 hK10 => ?_
  refine cx_block' ?_
  refine cx_seq' fun K11 hK11 => ?_
  refine cx_region' ?_
  refine sx_rd' (rd_atv' rfl rfl (by decide) (by decide) Try.underlying153 info101) rfl rfl (wt_none' rfl) ?_
  refine sx_rd' (rd_load_row' (i := 1) (o := 0) rfl ⟨rfl, rfl, rfl⟩ rfl flat101) rfl rfl (wt_none' rfl) ?_
  refine sx_rd' (rd_assign' rfl) rfl rfl (wt_none' rfl) ?_
  refine sx_nil' ?_
  show TX E K11 _
  refine tx_k' hK11 ?_
  refine cx_region' ?_
  refine sx_rd' (rd_move' rfl) rfl rfl (wt_none' rfl) ?_
  refine sx_rd' (rd_move' rfl) rfl rfl (wt_none' rfl) ?_
  obtain ⟨r901, hr901, hp⟩ := bind_some hp
  refine sx_ox' (ox_callg' (ent_clo' (us := [.pointer (some wa2_0_0)]) rfl Try.func90 isn90 rfl rfl) (gogeom_NewMultiPointFlatOptionWithEnds_1_v2_sim _ _ _ _ _ hr901 : Go.Sx.Fn Try.prog 90 [(Vl (.pointer (some q12))), (Vl (.pointer (some wa2_0_0)))] [⟨.pointer (some q12), [(Vl (.int .i64 a0)), (Vl (.int .i64 r22)), (Sl Kf a1), (Vl (.int .i64 0)), (Vl (.slice none 0 0))], 136, none⟩, ⟨.pointer (some wa2_0_0), [(Sl (Ki .i64) a2_0_0_0)], 23, none⟩] (fun x : Unit => (Vl (.tuple #[]))) (fun x => [⟨.pointer (some q12), [(Vl (.int .i64 r901.1)), (Vl (.int .i64 r901.2.1)), (Sl Kf r901.2.2.1), (Vl (.int .i64 r901.2.2.2.1)), (Sl (Ki .i64) r901.2.2.2.2)], 136, none⟩, ⟨.pointer (some wa2_0_0), [(Sl (Ki .i64) r901.2.2.2.2)], 23, none⟩])) [0, 2] [1] (by decide) (pick_cons rfl (pick_cons rfl pick_nil)) (pick_cons rfl pick_nil) (Hn := fun x : Unit => [⟨.pointer (some q12), [(Vl (.int .i64 r901.1)), (Vl (.int .i64 r901.2.1)), (Sl Kf r901.2.2.1), (Vl (.int .i64 r901.2.2.2.1)), (Sl (Ki .i64) r901.2.2.2.2)], 136, none⟩, ⟨.pointer (some wa2_0_0), [(Sl (Ki .i64) r901.2.2.2.2)], 23, none⟩, ⟨.slice (some wa2) 1 1, [(Vl (.func (.func 90) #[] ⟨[.pointer (some wa2_0_0)]⟩))], 101, some 1⟩]) (fun _ => rfl) rfl rfl) (wt_none' rfl) fun ⟨⟩ => ?_
  refine sx_nil' ?_
  show TX E K10 _
  refine tx_k' hK10 ?_
  refine cx_region' ?_
  refine sx_rd' (rd_bin' rfl rfl eg_int (ru_addc (c := 1) (by decide))) rfl rfl (wt_none' rfl) ?_
  refine sx_rd' (rd_move' rfl) rfl rfl (wt_none' rfl) ?_
  refine sx_nil' ?_
  show TX E (LoopIn _ _ _) _
  refine tx_round' ?_
  refine cx_seq' fun K12 hK12 => ?_
  refine cx_region' ?_
  refine sx_rd' (rd_bin' rfl rfl eg_int ru_lss) rfl rfl (wt_none' rfl) ?_
  refine sx_nil' ?_
  show TX E K12 _
  refine tx_k' hK12 ?_
  refine cx_seq' fun K13 hK13 => ?_
  refine cx_cond_f' rfl rfl ?_
  refine cx_exit' ?_
  show TX E K6 _
  refine tx_k' hK6 ?_
  refine cx_seq' fun K14 hK14 => ?_
  refine cx_seq' fun K15 hK15 => ?_
  refine cx_region' ?_
  refine sx_rd' (rd_move' rfl) rfl rfl (wt_none' rfl) ?_
  refine sx_rd' (rd_nilck' rfl) rfl rfl (wt_none' rfl) ?_
  refine sx_rd' (rd_field0' rfl Try.underlying136 rfl info130 rfl) rfl rfl (wt_none' rfl) ?_
  refine sx_rd' (rd_field' (off := 4) rfl Try.underlying130 rfl info23 rfl) rfl rfl (wt_none' rfl) ?_
  refine sx_rd' (rd_load' (i := 0) (o := 4) rfl ⟨rfl, rfl, rfl, rfl⟩ rfl flat23) rfl rfl (wt_none' rfl) ?_
  obtain ⟨z1, hz1, hp⟩ := bind_some hp
  refine sx_rd' (rd_binf' rfl rfl (bf_sl hz1 (fun _ _ _ _ => by kernel_rfl) nil_eql23_sl)) rfl rfl (wt_none' rfl) ?_
  refine sx_rd' (rd_move' rfl) rfl rfl (wt_none' rfl) ?_
  refine sx_skip' rfl rfl (wt_is' (wt_guard' rfl rfl rfl) (beq_ft rfl)) ?_
  refine sx_skip' rfl rfl (wt_is' (wt_guard' rfl rfl rfl) (beq_ft rfl)) ?_
  refine sx_skip' rfl rfl (wt_is' (wt_guard' rfl rfl rfl) (beq_ft rfl)) ?_
  refine sx_skip' rfl rfl (wt_is' (wt_guard' rfl rfl rfl) (beq_ft rfl)) ?_
  refine sx_skip' rfl rfl (wt_is' (wt_guard' rfl rfl rfl) (beq_ft rfl)) ?_
  refine sx_skip' rfl rfl (wt_is' (wt_guard' rfl rfl rfl) (beq_ft rfl)) ?_
  refine sx_skip' rfl rfl (wt_is' (wt_guard' rfl rfl rfl) (beq_ft rfl)) ?_
  refine sx_skip' rfl rfl (wt_is' (wt_guard' rfl rfl rfl) (beq_ft rfl)) ?_
  refine sx_skip' rfl rfl (wt_is' (wt_guard' rfl rfl rfl) (beq_ft rfl)) ?_
  refine sx_rd' (rd_pick_false' rfl rfl rfl) rfl rfl (wt_none' rfl) ?_
  refine sx_nil' ?_
  show TX E K15 _
  refine tx_k' hK15 ?_
  refine cx_cond_f' rfl rfl ?_
  refine cx_skip' ?_
  show TX E K14 _
  refine tx_k' hK14 ?_
  refine cx_seq' fun K16 hK16 => ?_
  refine cx_region' ?_
  refine sx_rd' (rd_move' rfl) rfl rfl (wt_none' rfl) ?_
  refine sx_rd' (rd_assign' rfl) rfl rfl (wt_none' rfl) ?_
  refine sx_nil' ?_
  show TX E K16 _
  refine tx_k' hK16 ?_
  refine cx_retc' ?_
  replace hp := Option.some.inj hp
  subst hp
  refine tx_pick' (L' := [(6, (Vl (.pointer (some q12))))]) (H' := [⟨.pointer (some wa2_0_0), [(Sl (Ki .i64) r901.2.2.2.2)], 23, none⟩, ⟨.pointer (some q12), [(Vl (.int .i64 r901.1)), (Vl (.int .i64 r901.2.1)), (Sl Kf r901.2.2.1), (Vl (.int .i64 r901.2.2.2.1)), (Sl (Ki .i64) r901.2.2.2.2)], 136, none⟩]) [1, 0] (sub_cons rfl sub_nil) (by decide) (pick_cons rfl (pick_cons rfl pick_nil)) ?_
  exact tx_ret1' Try.results68 rfl q12 (rv_tmp' rfl) (List.Sublist.refl _)

def gogeom_MultiPoint_SetSRID_v2 (k : Nat) (a0_0 : Int) (a0_1 : Int) (a0_2 : List Nat) (a0_3 : Int) (a0_4 : List Int) (a1 : Int) : Option (Int × Int × (List Nat) × Int × (List Int)) :=
  some (a0_0, a0_1, a0_2, a1, a0_4)

theorem gogeom_MultiPoint_SetSRID_v2_sim {k : Nat} {wa0 : Addr} (a0_0 : Int) (a0_1 : Int) (a0_2 : List Nat) (a0_3 : Int) (a0_4 : List Int) (a1 : Int) {out : Int × Int × (List Nat) × Int × (List Int)} (hp : gogeom_MultiPoint_SetSRID_v2 k a0_0 a0_1 a0_2 a0_3 a0_4 a1 = some out) : Go.Sx.Fn Try.prog 70 [(Vl (.pointer (some wa0))), (Vl (.int .i64 a1))] [⟨.pointer (some wa0), [(Vl (.int .i64 a0_0)), (Vl (.int .i64 a0_1)), (Sl Kf a0_2), (Vl (.int .i64 a0_3)), (Sl (Ki .i64) a0_4)], 136, none⟩] (fun w : Unit => (Vl (.pointer (some wa0)))) (fun w => [⟨.pointer (some wa0), [(Vl (.int .i64 out.1)), (Vl (.int .i64 out.2.1)), (Sl Kf out.2.2.1), (Vl (.int .i64 out.2.2.2.1)), (Sl (Ki .i64) out.2.2.2.2)], 136, none⟩]) := by
  unfold gogeom_MultiPoint_SetSRID_v2 at hp
  refine fn_of Try.func70 rfl Try.ntmps70 rfl fun E hM => ?_
  refine cx_seq' fun K1 hK1 => ?_
  refine cx_region' ?_
  refine sx_rd' (rd_assign' rfl) rfl rfl (wt_none' rfl) ?_
  refine sx_nil' ?_
  show TX E K1 _
  refine tx_k' hK1 ?_
  refine cx_seq' fun K2 hK2 => ?_
  refine cx_region' ?_
  refine sx_rd' (rd_move' rfl) rfl rfl (wt_none' rfl) ?_
  refine sx_rd' (rd_move' rfl) rfl rfl (wt_none' rfl) ?_
  refine sx_rd' (rd_nilck' rfl) rfl rfl (wt_none' rfl) ?_
  refine sx_rd' (rd_field0' rfl Try.underlying136 rfl info130 rfl) rfl rfl (wt_none' rfl) ?_
  refine sx_rd' (rd_field0' rfl Try.underlying130 rfl info126 rfl) rfl rfl (wt_none' rfl) ?_
  refine sx_rd' (rd_field0' rfl Try.underlying126 rfl info124 rfl) rfl rfl (wt_none' rfl) ?_
  refine sx_rd' (rd_field' (off := 3) rfl Try.underlying124 rfl info3 rfl) rfl rfl (wt_none' rfl) ?_
  refine sx_ox' (ox_store' (i := 0) (o := 3) rfl rfl (lv_vl rfl rfl) ⟨rfl, rfl, rfl, rfl⟩ rfl info3 rfl (H' := [⟨.pointer (some wa0), [(Vl (.int .i64 a0_0)), (Vl (.int .i64 a0_1)), (Sl Kf a0_2), (Vl (.int .i64 a1)), (Sl (Ki .i64) a0_4)], 136, none⟩]) rfl) (wt_none' rfl) fun _ => ?_
  refine sx_nil' ?_
  show TX E K2 _
  refine tx_k' hK2 ?_
  refine cx_seq' fun K3 hK3 => ?_
  refine cx_region' ?_
  refine sx_rd' (rd_move' rfl) rfl rfl (wt_none' rfl) ?_
  refine sx_rd' (rd_assign' rfl) rfl rfl (wt_none' rfl) ?_
  refine sx_nil' ?_
  show TX E K3 _
  refine tx_k' hK3 ?_
  refine cx_retc' ?_
  replace hp := Option.some.inj hp
  subst hp
  refine tx_pick' (L' := [(4, (Vl (.pointer (some wa0))))]) (H' := [⟨.pointer (some wa0), [(Vl (.int .i64 a0_0)), (Vl (.int .i64 a0_1)), (Sl Kf a0_2), (Vl (.int .i64 a1)), (Sl (Ki .i64) a0_4)], 136, none⟩]) [0] (sub_cons rfl sub_nil) (by decide) (pick_cons rfl pick_nil) ?_
  exact tx_ret1' Try.results70 rfl () (rv_tmp' rfl) (List.Sublist.refl _)

def gogeom_NewMultiLineStringFlat (k : Nat) (a0 : Int) (a1 : List Nat) : Option (Int × Int × (List Nat) × Int) :=
  (gogeom_Layout_Stride k a0) >>= fun r18 =>
  some (a0, r18, a1, 0)

theorem gogeom_NewMultiLineStringFlat_sim {k : Nat}  (a0 : Int) (a1 : List Nat) {out : Int × Int × (List Nat) × Int} (hp : gogeom_NewMultiLineStringFlat k a0 a1 = some out) : Go.Sx.Fn Try.prog 71 [(Vl (.int .i64 a0)), (Sl Kf a1), (Vl (.slice none 0 0))] [] (fun w : Addr => (Vl (.pointer (some w)))) (fun w => [⟨.pointer (some w), [(Vl (.int .i64 out.1)), (Vl (.int .i64 out.2.1)), (Sl Kf out.2.2.1), (Vl (.int .i64 out.2.2.2)), (Vl (.slice none 0 0))], 139, none⟩]) := by
  unfold gogeom_NewMultiLineStringFlat at hp
  refine fn_of Try.func71 rfl Try.ntmps71 rfl fun E hM => ?_
  refine cx_seq' fun K1 hK1 => ?_
  refine cx_region' ?_
  refine sx_rd' (rd_assign' rfl) rfl rfl (wt_none' rfl) ?_
  refine sx_nil' ?_
  show TX E K1 _
  refine tx_k' hK1 ?_
  refine cx_seq' fun K2 hK2 => ?_
  refine cx_region' ?_
  refine sx_ox' (ox_alloc' info139 rfl rfl rfl rfl (l := [(Vl (.int .i64 0)), (Vl (.int .i64 0)), (Vl (.slice none 0 0)), (Vl (.int .i64 0)), (Vl (.slice none 0 0))]) rfl) (wt_none' rfl) fun q8 => ?_
  refine sx_rd' (rd_assign' rfl) rfl rfl (wt_none' rfl) ?_
  refine sx_nil' ?_
  show TX E K2 _
  refine tx_k' hK2 ?_
  refine cx_seq' fun K3 hK3 => ?_
  refine cx_region' ?_
  refine sx_rd' (rd_move' rfl) rfl rfl (wt_none' rfl) ?_
  refine sx_rd' (rd_move' rfl) rfl rfl (wt_none' rfl) ?_
  refine sx_rd' (rd_nilck' rfl) rfl rfl (wt_none' rfl) ?_
  refine sx_rd' (rd_field0' rfl Try.underlying139 rfl info130 rfl) rfl rfl (wt_none' rfl) ?_
  refine sx_rd' (rd_field0' rfl Try.underlying130 rfl info126 rfl) rfl rfl (wt_none' rfl) ?_
  refine sx_rd' (rd_field0' rfl Try.underlying126 rfl info124 rfl) rfl rfl (wt_none' rfl) ?_
  refine sx_rd' (rd_field0' rfl Try.underlying124 rfl info61 rfl) rfl rfl (wt_none' rfl) ?_
  refine sx_ox' (ox_store' (i := 0) (o := 0) rfl rfl (lv_vl rfl rfl) ⟨rfl, rfl, rfl, rfl⟩ rfl info61 rfl (H' := [⟨.pointer (some q8), [(Vl (.int .i64 a0)), (Vl (.int .i64 0)), (Vl (.slice none 0 0)), (Vl (.int .i64 0)), (Vl (.slice none 0 0))], 139, none⟩]) rfl) (wt_none' rfl) fun _ => ?_
  refine sx_nil' ?_
  show TX E K3 _
  refine tx_k' hK3 ?_
  refine cx_seq' fun K4 hK4 => ?_
  refine cx_region' ?_
  refine sx_rd' (rd_move' rfl) rfl rfl (wt_none' rfl) ?_
  refine sx_rd' (rd_move' rfl) rfl rfl (wt_none' rfl) ?_
  obtain ⟨r18, hr18, hp⟩ := bind_some hp
  refine sx_ox' (ox_calln' (ent_fn' Try.func89 isn89 rfl rfl) (gogeom_Layout_Stride_sim _ hr18 : Go.Sx.Fn Try.prog 89 [(Vl (.int .i64 a0))] [] (fun x : Unit => (Vl (.int .i64 r18))) (fun x => [])) (Hn := fun x : Unit => [⟨.pointer (some q8), [(Vl (.int .i64 a0)), (Vl (.int .i64 0)), (Vl (.slice none 0 0)), (Vl (.int .i64 0)), (Vl (.slice none 0 0))], 139, none⟩]) (fun _ => rfl) rfl rfl) (wt_none' rfl) fun ⟨⟩ => ?_
  refine sx_rd' (rd_nilck' rfl) rfl rfl (wt_none' rfl) ?_
  refine sx_rd' (rd_field0' rfl Try.underlying139 rfl info130 rfl) rfl rfl (wt_none' rfl) ?_
  refine sx_rd' (rd_field0' rfl Try.underlying130 rfl info126 rfl) rfl rfl (wt_none' rfl) ?_
  refine sx_rd' (rd_field0' rfl Try.underlying126 rfl info124 rfl) rfl rfl (wt_none' rfl) ?_
  refine sx_rd' (rd_field' (off := 1) rfl Try.underlying124 rfl info3 rfl) rfl rfl (wt_none' rfl) ?_
  refine sx_ox' (ox_store' (i := 0) (o := 1) rfl rfl (lv_vl rfl rfl) ⟨rfl, rfl, rfl, rfl⟩ rfl info3 rfl (H' := [⟨.pointer (some q8), [(Vl (.int .i64 a0)), (Vl (.int .i64 r18)), (Vl (.slice none 0 0)), (Vl (.int .i64 0)), (Vl (.slice none 0 0))], 139, none⟩]) rfl) (wt_none' rfl) fun _ => ?_
  refine sx_nil' ?_
  show TX E K4 _
  refine tx_k' hK4 ?_
  refine cx_seq' fun K5 hK5 => ?_
  refine cx_region' ?_
  refine sx_rd' (rd_move' rfl) rfl rfl (wt_none' rfl) ?_
  refine sx_rd' (rd_move' rfl) rfl rfl (wt_none' rfl) ?_
  refine sx_rd' (rd_nilck' rfl) rfl rfl (wt_none' rfl) ?_
  refine sx_rd' (rd_field0' rfl Try.underlying139 rfl info130 rfl) rfl rfl (wt_none' rfl) ?_
  refine sx_rd' (rd_field0' rfl Try.underlying130 rfl info126 rfl) rfl rfl (wt_none' rfl) ?_
  refine sx_rd' (rd_field0' rfl Try.underlying126 rfl info124 rfl) rfl rfl (wt_none' rfl) ?_
  refine sx_rd' (rd_field' (off := 2) rfl Try.underlying124 rfl info22 rfl) rfl rfl (wt_none' rfl) ?_
  refine sx_ox' (ox_store' (i := 0) (o := 2) rfl rfl (lv_sl _ _) ⟨rfl, rfl, rfl, rfl⟩ rfl info22 rfl (H' := [⟨.pointer (some q8), [(Vl (.int .i64 a0)), (Vl (.int .i64 r18)), (Sl Kf a1), (Vl (.int .i64 0)), (Vl (.slice none 0 0))], 139, none⟩]) rfl) (wt_none' rfl) fun _ => ?_
  refine sx_nil' ?_
  show TX E K5 _
  refine tx_k' hK5 ?_
  refine cx_seq' fun K6 hK6 => ?_
  refine cx_region' ?_
  refine sx_rd' (rd_move' rfl) rfl rfl (wt_none' rfl) ?_
  refine sx_rd' (rd_move' rfl) rfl rfl (wt_none' rfl) ?_
  refine sx_rd' (rd_nilck' rfl) rfl rfl (wt_none' rfl) ?_
  refine sx_rd' (rd_field0' rfl Try.underlying139 rfl info130 rfl) rfl rfl (wt_none' rfl) ?_
  refine sx_rd' (rd_field' (off := 4) rfl Try.underlying130 rfl info23 rfl) rfl rfl (wt_none' rfl) ?_
  refine sx_ox' (ox_store' (i := 0) (o := 4) rfl rfl (lv_vl rfl rfl) ⟨rfl, rfl, rfl, rfl⟩ rfl info23 rfl (H' := [⟨.pointer (some q8), [(Vl (.int .i64 a0)), (Vl (.int .i64 r18)), (Sl Kf a1), (Vl (.int .i64 0)), (Vl (.slice none 0 0))], 139, none⟩]) rfl) (wt_none' rfl) fun _ => ?_
  refine sx_nil' ?_
  show TX E K6 _
  refine tx_k' hK6 ?_
  refine cx_seq' fun K7 hK7 => ?_
  refine cx_region' ?_
  refine sx_rd' (rd_move' rfl) rfl rfl (wt_none' rfl) ?_
  refine sx_rd' (rd_assign' rfl) rfl rfl (wt_none' rfl) ?_
  refine sx_nil' ?_
  show TX E K7 _
  refine tx_k' hK7 ?_
  refine cx_retc' ?_
  replace hp := Option.some.inj hp
  subst hp
  refine tx_pick' (L' := [(6, (Vl (.pointer (some q8))))]) (H' := [⟨.pointer (some q8), [(Vl (.int .i64 a0)), (Vl (.int .i64 r18)), (Sl Kf a1), (Vl (.int .i64 0)), (Vl (.slice none 0 0))], 139, none⟩]) [0] (sub_cons rfl sub_nil) (by decide) (pick_cons rfl pick_nil) ?_
  exact tx_ret1' Try.results71 rfl q8 (rv_tmp' rfl) (List.Sublist.refl _)

def gogeom_MultiLineString_SetSRID (k : Nat) (a0_0 : Int) (a0_1 : Int) (a0_2 : List Nat) (a0_3 : Int) (a1 : Int) : Option (Int × Int × (List Nat) × Int) :=
  some (a0_0, a0_1, a0_2, a1)

theorem gogeom_MultiLineString_SetSRID_sim {k : Nat} {wa0 : Addr} (a0_0 : Int) (a0_1 : Int) (a0_2 : List Nat) (a0_3 : Int) (a1 : Int) {out : Int × Int × (List Nat) × Int} (hp : gogeom_MultiLineString_SetSRID k a0_0 a0_1 a0_2 a0_3 a1 = some out) : Go.Sx.Fn Try.prog 72 [(Vl (.pointer (some wa0))), (Vl (.int .i64 a1))] [⟨.pointer (some wa0), [(Vl (.int .i64 a0_0)), (Vl (.int .i64 a0_1)), (Sl Kf a0_2), (Vl (.int .i64 a0_3)), (Vl (.slice none 0 0))], 139, none⟩] (fun w : Unit => (Vl (.pointer (some wa0)))) (fun w => [⟨.pointer (some wa0), [(Vl (.int .i64 out.1)), (Vl (.int .i64 out.2.1)), (Sl Kf out.2.2.1), (Vl (.int .i64 out.2.2.2)), (Vl (.slice none 0 0))], 139, none⟩]) := by
  unfold gogeom_MultiLineString_SetSRID at hp
  refine fn_of Try.func72 rfl Try.ntmps72 rfl fun E hM => ?_
  refine cx_seq' fun K1 hK1 => ?_
  refine cx_region' ?_
  refine sx_rd' (rd_assign' rfl) rfl rfl (wt_none' rfl) ?_
  refine sx_nil' ?_
  show TX E K1 _
  refine tx_k' hK1 ?_
  refine cx_seq' fun K2 hK2 => ?_
  refine cx_region' ?_
  refine sx_rd' (rd_move' rfl) rfl rfl (wt_none' rfl) ?_
  refine sx_rd' (rd_move' rfl) rfl rfl (wt_none' rfl) ?_
  refine sx_rd' (rd_nilck' rfl) rfl rfl (wt_none' rfl) ?_
  refine sx_rd' (rd_field0' rfl Try.underlying139 rfl info130 rfl) rfl rfl (wt_none' rfl) ?_
  refine sx_rd' (rd_field0' rfl Try.underlying130 rfl info126 rfl) rfl rfl (wt_none' rfl) ?_
  refine sx_rd' (rd_field0' rfl Try.underlying126 rfl info124 rfl) rfl rfl (wt_none' rfl) ?_
  refine sx_rd' (rd_field' (off := 3) rfl Try.underlying124 rfl info3 rfl) rfl rfl (wt_none' rfl) ?_
  refine sx_ox' (ox_store' (i := 0) (o := 3) rfl rfl (lv_vl rfl rfl) ⟨rfl, rfl, rfl, rfl⟩ rfl info3 rfl (H' := [⟨.pointer (some wa0), [(Vl (.int .i64 a0_0)), (Vl (.int .i64 a0_1)), (Sl Kf a0_2), (Vl (.int .i64 a1)), (Vl (.slice none 0 0))], 139, none⟩]) rfl) (wt_none' rfl) fun _ => ?_
  refine sx_nil' ?_
  show TX E K2 _
  refine tx_k' hK2 ?_
  refine cx_seq' fun K3 hK3 => ?_
  refine cx_region' ?_
  refine sx_rd' (rd_move' rfl) rfl rfl (wt_none' rfl) ?_
  refine sx_rd' (rd_assign' rfl) rfl rfl (wt_none' rfl) ?_
  refine sx_nil' ?_
  show TX E K3 _
  refine tx_k' hK3 ?_
  refine cx_retc' ?_
  replace hp := Option.some.inj hp
  subst hp
  refine tx_pick' (L' := [(4, (Vl (.pointer (some wa0))))]) (H' := [⟨.pointer (some wa0), [(Vl (.int .i64 a0_0)), (Vl (.int .i64 a0_1)), (Sl Kf a0_2), (Vl (.int .i64 a1)), (Vl (.slice none 0 0))], 139, none⟩]) [0] (sub_cons rfl sub_nil) (by decide) (pick_cons rfl pick_nil) ?_
  exact tx_ret1' Try.results72 rfl () (rv_tmp' rfl) (List.Sublist.refl _)

def gogeom_NewMultiLineStringFlat_v2 (k : Nat) (a0 : Int) (a1 : List Nat) (a2 : List Int) : Option (Int × Int × (List Nat) × Int × (List Int)) :=
  (gogeom_Layout_Stride k a0) >>= fun r18 =>
  some (a0, r18, a1, 0, a2)

theorem gogeom_NewMultiLineStringFlat_v2_sim {k : Nat}  (a0 : Int) (a1 : List Nat) (a2 : List Int) {out : Int × Int × (List Nat) × Int × (List Int)} (hp : gogeom_NewMultiLineStringFlat_v2 k a0 a1 a2 = some out) : Go.Sx.Fn Try.prog 71 [(Vl (.int .i64 a0)), (Sl Kf a1), (Sl (Ki .i64) a2)] [] (fun w : Addr => (Vl (.pointer (some w)))) (fun w => [⟨.pointer (some w), [(Vl (.int .i64 out.1)), (Vl (.int .i64 out.2.1)), (Sl Kf out.2.2.1), (Vl (.int .i64 out.2.2.2.1)), (Sl (Ki .i64) out.2.2.2.2)], 139, none⟩]) := by
  unfold gogeom_NewMultiLineStringFlat_v2 at hp
  refine fn_of Try.func71 rfl Try.ntmps71 rfl fun E hM => ?_
  refine cx_seq' fun K1 hK1 => ?_
  refine cx_region' ?_
  refine sx_rd' (rd_assign' rfl) rfl rfl (wt_none' rfl) ?_
  refine sx_nil' ?_
  show TX E K1 _
  refine tx_k' hK1 ?_
  refine cx_seq' fun K2 hK2 => ?_
  refine cx_region' ?_
  refine sx_ox' (ox_alloc' info139 rfl rfl rfl rfl (l := [(Vl (.int .i64 0)), (Vl (.int .i64 0)), (Vl (.slice none 0 0)), (Vl (.int .i64 0)), (Vl (.slice none 0 0))]) rfl) (wt_none' rfl) fun q8 => ?_
  refine sx_rd' (rd_assign' rfl) rfl rfl (wt_none' rfl) ?_
  refine sx_nil' ?_
  show TX E K2 _
  refine tx_k' hK2 ?_
  refine cx_seq' fun K3 hK3 => ?_
  refine cx_region' ?_
  refine sx_rd' (rd_move' rfl) rfl rfl (wt_none' rfl) ?_
  refine sx_rd' (rd_move' rfl) rfl rfl (wt_none' rfl) ?_
  refine sx_rd' (rd_nilck' rfl) rfl rfl (wt_none' rfl) ?_
  refine sx_rd' (rd_field0' rfl Try.underlying139 rfl info130 rfl) rfl rfl (wt_none' rfl) ?_
  refine sx_rd' (rd_field0' rfl Try.underlying130 rfl info126 rfl) rfl rfl (wt_none' rfl) ?_
  refine sx_rd' (rd_field0' rfl Try.underlying126 rfl info124 rfl) rfl rfl (wt_none' rfl) ?_
  refine sx_rd' (rd_field0' rfl Try.underlying124 rfl info61 rfl) rfl rfl (wt_none' rfl) ?_
  refine sx_ox' (ox_store' (i := 0) (o := 0) rfl rfl (lv_vl rfl rfl) ⟨rfl, rfl, rfl, rfl⟩ rfl info61 rfl (H' := [⟨.pointer (some q8), [(Vl (.int .i64 a0)), (Vl (.int .i64 0)), (Vl (.slice none 0 0)), (Vl (.int .i64 0)), (Vl (.slice none 0 0))], 139, none⟩]) rfl) (wt_none' rfl) fun _ => ?_
  refine sx_nil' ?_
  show TX E K3 _
  refine tx_k' hK3 ?_
  refine cx_seq' fun K4 hK4 => ?_
  refine cx_region' ?_
  refine sx_rd' (rd_move' rfl) rfl rfl (wt_none' rfl) ?_
  refine sx_rd' (rd_move' rfl) rfl rfl (wt_none' rfl) ?_
  obtain ⟨r18, hr18, hp⟩ := bind_some hp
  refine sx_ox' (ox_calln' (ent_fn' Try.func89 isn89 rfl rfl) (gogeom_Layout_Stride_sim _ hr18 : Go.Sx.Fn Try.prog 89 [(Vl (.int .i64 a0))] [] (fun x : Unit => (Vl (.int .i64 r18))) (fun x => [])) (Hn := fun x : Unit => [⟨.pointer (some q8), [(Vl (.int .i64 a0)), (Vl (.int .i64 0)), (Vl (.slice none 0 0)), (Vl (.int .i64 0)), (Vl (.slice none 0 0))], 139, none⟩]) (fun _ => rfl) rfl rfl) (wt_none' rfl) fun ⟨⟩ => ?_
  refine sx_rd' (rd_nilck' rfl) rfl rfl (wt_none' rfl) ?_
  refine sx_rd' (rd_field0' rfl Try.underlying139 rfl info130 rfl) rfl rfl (wt_none' rfl) ?_
  refine sx_rd' (rd_field0' rfl Try.underlying130 rfl info126 rfl) rfl rfl (wt_none' rfl) ?_
  refine sx_rd' (rd_field0' rfl Try.underlying126 rfl info124 rfl) rfl rfl (wt_none' rfl) ?_
  refine sx_rd' (rd_field' (off := 1) rfl Try.underlying124 rfl info3 rfl) rfl rfl (wt_none' rfl) ?_
  refine sx_ox' (ox_store' (i := 0) (o := 1) rfl rfl (lv_vl rfl rfl) ⟨rfl, rfl, rfl, rfl⟩ rfl info3 rfl (H' := [⟨.pointer (some q8), [(Vl (.int .i64 a0)), (Vl (.int .i64 r18)), (Vl (.slice none 0 0)), (Vl (.int .i64 0)), (Vl (.slice none 0 0))], 139, none⟩]) rfl) (wt_none' rfl) fun _ => ?_
  refine sx_nil' ?_
  show TX E K4 _
  refine tx_k' hK4 ?_
  refine cx_seq' fun K5 hK5 => ?_
  refine cx_region' ?_
  refine sx_rd' (rd_move' rfl) rfl rfl (wt_none' rfl) ?_
  refine sx_rd' (rd_move' rfl) rfl rfl (wt_none' rfl) ?_
  refine sx_rd' (rd_nilck' rfl) rfl rfl (wt_none' rfl) ?_
  refine sx_rd' (rd_field0' rfl Try.underlying139 rfl info130 rfl) rfl rfl (wt_none' rfl) ?_
  refine sx_rd' (rd_field0' rfl Try.underlying130 rfl info126 rfl) rfl rfl (wt_none' rfl) ?_
  refine sx_rd' (rd_field0' rfl Try.underlying126 rfl info124 rfl) rfl rfl (wt_none' rfl) ?_
  refine sx_rd' (rd_field' (off := 2) rfl Try.underlying124 rfl info22 rfl) rfl rfl (wt_none' rfl) ?_
  refine sx_ox' (ox_store' (i := 0) (o := 2) rfl rfl (lv_sl _ _) ⟨rfl, rfl, rfl, rfl⟩ rfl info22 rfl (H' := [⟨.pointer (some q8), [(Vl (.int .i64 a0)), (Vl (.int .i64 r18)), (Sl Kf a1), (Vl (.int .i64 0)), (Vl (.slice none 0 0))], 139, none⟩]) rfl) (wt_none' rfl) fun _ => ?_
  refine sx_nil' ?_
  show TX E K5 _
  refine tx_k' hK5 ?_
  refine cx_seq' fun K6 hK6 => ?_
  refine cx_region' ?_
  refine sx_rd' (rd_move' rfl) rfl rfl (wt_none' rfl) ?_
  refine sx_rd' (rd_move' rfl) rfl rfl (wt_none' rfl) ?_
  refine sx_rd' (rd_nilck' rfl) rfl rfl (wt_none' rfl) ?_
  refine sx_rd' (rd_field0' rfl Try.underlying139 rfl info130 rfl) rfl rfl (wt_none' rfl) ?_
  refine sx_rd' (rd_field' (off := 4) rfl Try.underlying130 rfl info23 rfl) rfl rfl (wt_none' rfl) ?_
  refine sx_ox' (ox_store' (i := 0) (o := 4) rfl rfl (lv_sl _ _) ⟨rfl, rfl, rfl, rfl⟩ rfl info23 rfl (H' := [⟨.pointer (some q8), [(Vl (.int .i64 a0)), (Vl (.int .i64 r18)), (Sl Kf a1), (Vl (.int .i64 0)), (Sl (Ki .i64) a2)], 139, none⟩]) rfl) (wt_none' rfl) fun _ => ?_
  refine sx_nil' ?_
  show TX E K6 _
  refine tx_k' hK6 ?_
  refine cx_seq' fun K7 hK7 => ?_
  refine cx_region' ?_
  refine sx_rd' (rd_move' rfl) rfl rfl (wt_none' rfl) ?_
  refine sx_rd' (rd_assign' rfl) rfl rfl (wt_none' rfl) ?_
  refine sx_nil' ?_
  show TX E K7 _
  refine tx_k' hK7 ?_
  refine cx_retc' ?_
  replace hp := Option.some.inj hp
  subst hp
  refine tx_pick' (L' := [(6, (Vl (.pointer (some q8))))]) (H' := [⟨.pointer (some q8), [(Vl (.int .i64 a0)), (Vl (.int .i64 r18)), (Sl Kf a1), (Vl (.int .i64 0)), (Sl (Ki .i64) a2)], 139, none⟩]) [0] (sub_cons rfl sub_nil) (by decide) (pick_cons rfl pick_nil) ?_
  exact tx_ret1' Try.results71 rfl q8 (rv_tmp' rfl) (List.Sublist.refl _)

def gogeom_MultiLineString_SetSRID_v2 (k : Nat) (a0_0 : Int) (a0_1 : Int) (a0_2 : List Nat) (a0_3 : Int) (a0_4 : List Int) (a1 : Int) : Option (Int × Int × (List Nat) × Int × (List Int)) :=
  some (a0_0, a0_1, a0_2, a1, a0_4)

theorem gogeom_MultiLineString_SetSRID_v2_sim {k : Nat} {wa0 : Addr} (a0_0 : Int) (a0_1 : Int) (a0_2 : List Nat) (a0_3 : Int) (a0_4 : List Int) (a1 : Int) {out : Int × Int × (List Nat) × Int × (List Int)} (hp : gogeom_MultiLineString_SetSRID_v2 k a0_0 a0_1 a0_2 a0_3 a0_4 a1 = some out) : Go.Sx.Fn Try.prog 72 [(Vl (.pointer (some wa0))), (Vl (.int .i64 a1))] [⟨.pointer (some wa0), [(Vl (.int .i64 a0_0)), (Vl (.int .i64 a0_1)), (Sl Kf a0_2), (Vl (.int .i64 a0_3)), (Sl (Ki .i64) a0_4)], 139, none⟩] (fun w : Unit => (Vl (.pointer (some wa0)))) (fun w => [⟨.pointer (some wa0), [(Vl (.int .i64 out.1)), (Vl (.int .i64 out.2.1)), (Sl Kf out.2.2.1), (Vl (.int .i64 out.2.2.2.1)), (Sl (Ki .i64) out.2.2.2.2)], 139, none⟩]) := by
  unfold gogeom_MultiLineString_SetSRID_v2 at hp
  refine fn_of Try.func72 rfl Try.ntmps72 rfl fun E hM => ?_
  refine cx_seq' fun K1 hK1 => ?_
  refine cx_region' ?_
  refine sx_rd' (rd_assign' rfl) rfl rfl (wt_none' rfl) ?_
  refine sx_nil' ?_
  show TX E K1 _
  refine tx_k' hK1 ?_
  refine cx_seq' fun K2 hK2 => ?_
  refine cx_region' ?_
  refine sx_rd' (rd_move' rfl) rfl rfl (wt_none' rfl) ?_
  refine sx_rd' (rd_move' rfl) rfl rfl (wt_none' rfl) ?_
  refine sx_rd' (rd_nilck' rfl) rfl rfl (wt_none' rfl) ?_
  refine sx_rd' (rd_field0' rfl Try.underlying139 rfl info130 rfl) rfl rfl (wt_none' rfl) ?_
  refine sx_rd' (rd_field0' rfl Try.underlying130 rfl info126 rfl) rfl rfl (wt_none' rfl) ?_
  refine sx_rd' (rd_field0' rfl Try.underlying126 rfl info124 rfl) rfl rfl (wt_none' rfl) ?_
  refine sx_rd' (rd_field' (off := 3) rfl Try.underlying124 rfl info3 rfl) rfl rfl (wt_none' rfl) ?_
  refine sx_ox' (ox_store' (i := 0) (o := 3) rfl rfl (lv_vl rfl rfl) ⟨rfl, rfl, rfl, rfl⟩ rfl info3 rfl (H' := [⟨.pointer (some wa0), [(Vl (.int .i64 a0_0)), (Vl (.int .i64 a0_1)), (Sl Kf a0_2), (Vl (.int .i64 a1)), (Sl (Ki .i64) a0_4)], 139, none⟩]) rfl) (wt_none' rfl) fun _ => ?_
  refine sx_nil' ?_
  show TX E K2 _
  refine tx_k' hK2 ?_
  refine cx_seq' fun K3 hK3 => ?_
  refine cx_region' ?_
  refine sx_rd' (rd_move' rfl) rfl rfl (wt_none' rfl) ?_
  refine sx_rd' (rd_assign' rfl) rfl rfl (wt_none' rfl) ?_
  refine sx_nil' ?_
  show TX E K3 _
  refine tx_k' hK3 ?_
  refine cx_retc' ?_
  replace hp := Option.some.inj hp
  subst hp
  refine tx_pick' (L' := [(4, (Vl (.pointer (some wa0))))]) (H' := [⟨.pointer (some wa0), [(Vl (.int .i64 a0_0)), (Vl (.int .i64 a0_1)), (Sl Kf a0_2), (Vl (.int .i64 a1)), (Sl (Ki .i64) a0_4)], 139, none⟩]) [0] (sub_cons rfl sub_nil) (by decide) (pick_cons rfl pick_nil) ?_
  exact tx_ret1' Try.results72 rfl () (rv_tmp' rfl) (List.Sublist.refl _)

def impl_intss_l1s (a0 : List (List Int)) (k : Nat) (rec1 : ((List (List Int)) × Int) → Option ((List (List Int)))) (x1 : List (List Int)) (x2 : Int) : Option ((List (List Int))) :=
  br (decide (x2 < (a0.length : Int)))
    ((idx a0 x2) >>= fun r10 =>
    (impl_ints k r10) >>= fun r14 =>
    match r14 with
      | (.inl y2) =>
        ((apd 24 x1 ([[]])) >>= fun r16 =>
        rec1 (r16, (iadd .i64 x2 1)))
      | (.inr y2) =>
        ((apd 24 x1 ([y2])) >>= fun r16 =>
        rec1 (r16, (iadd .i64 x2 1))))
    (some x1)
def impl_intss_l1 (a0 : List (List Int)) : Nat → ((List (List Int)) × Int) → Option ((List (List Int)))
  | 0, _ => none
  | k + 1, v => impl_intss_l1s a0 k (impl_intss_l1 a0 k) v.1 v.2
def impl_intss (k : Nat) (a0 : List (List Int)) : Option ((List (List Int))) :=
  (impl_intss_l1 a0 k ([], 0)) >>= fun v2 =>
  some v2

theorem impl_intss_sim {k : Nat}  (a0 : List (List Int)) {out : (List (List Int))} (hp : impl_intss k a0 = some out) : Go.Sx.Fn Try.prog 29 [(Sl (Kl (Ki .i64)) a0)] [] (fun w : Unit => (Sl (Kl (Ki .i64)) out)) (fun w => []) := by
  unfold impl_intss at hp
  refine fn_of Try.func29 rfl Try.ntmps29 rfl fun E hM => ?_
  refine cx_seq' fun K1 hK1 => ?_
  refine cx_region' ?_
  refine sx_rd' (rd_assign' rfl) rfl rfl (wt_none' rfl) ?_
  refine sx_nil' ?_
  show TX E K1 _
  refine tx_k' hK1 ?_
  refine cx_seq' fun K2 hK2 => ?_
  refine cx_region' ?_
  refine sx_rd' (rd_assign' rfl) rfl rfl (wt_none' rfl) ?_
  refine sx_nil' ?_
  show TX E K2 _
  refine tx_k' hK2 ?_
  refine cx_seq' fun K3 hK3 => ?_
  refine cx_seq' fun K4 hK4 => ?_
  refine cx_region' ?_
  refine sx_rd' (rd_move' rfl) rfl rfl (wt_none' rfl) ?_
  refine sx_rd' (rd_len' rfl Try.underlying24) rfl rfl (wt_none' rfl) ?_
  refine sx_rd' (rd_move' rfl) rfl rfl (wt_none' rfl) ?_
  refine sx_nil' ?_
  show TX E K4 _
  refine tx_k' hK4 ?_
  refine cx_block' ?_
  obtain ⟨v2, hy1, hp⟩ := bind_some hp
  refine tx_nilrow' (Kl (Ki .i64)) 23 ?_
  refine cx_loopg' (F := impl_intss_l1 a0) (G := fun k R v => impl_intss_l1s a0 k R v.1 v.2) (x := ([], 0)) (gh := (none, 0, 0)) (fun (v1 : (List (List Int)) × Int) (w1 : Gs) => (⟨19, [], [(3, (Vl (Vs w1))), (6, (Sl (Kl (Ki .i64)) a0)), (7, (Vl (.int .i64 (a0.length : Int)))), (8, (Vl (.int .i64 v1.2)))], [(Rw (Kl (Ki .i64)) 23 (Vs w1) v1.1)]⟩ : St)) (fun (v2 : (List (List Int))) => Zg E (Exit.exit 0) (fun (w2 : Gs) => (⟨19, [], [(3, (Vl (Vs w2)))], [(Rw (Kl (Ki .i64)) 23 (Vs w2) v2)]⟩ : St))) (fun _ => rfl) (fun _ _ => rfl) ?_ hy1 (tx_to' rfl [0] (sub_cons rfl (sub_cons rfl (sub_cons rfl (sub_cons rfl sub_nil)))) (by decide) (pick_cons rfl pick_nil)) ?_
  · clear hp hy1
    clear v2
    intro k rec1 KY1 ih1
    rintro ⟨x1, x2⟩ g901 y3 hp
    replace hp : impl_intss_l1s a0 k rec1 x1 x2 = some y3 := hp
    unfold impl_intss_l1s at hp
    refine cx_seq' fun K9 hK9 => ?_
    refine cx_region' ?_
    refine sx_rd' (rd_bin' rfl rfl eg_int ru_lss) rfl rfl (wt_none' rfl) ?_
    refine sx_nil' ?_
    show TX E K9 _
    refine tx_k' hK9 ?_
    refine cx_seq' fun K10 hK10 => ?_
    refine cx_cond' rfl (fun h3 => ?_) (fun h3 => ?_)
    · replace hp := (br_t h3).symm.trans hp
      refine cx_skip' ?_
      show TX E K10 _
      refine tx_k' hK10 ?_
      refine cx_seq' fun K11 hK11 => ?_
      refine cx_block' ?_
      refine cx_seq' fun K12 hK12 => ?_
      refine cx_region' ?_
      obtain ⟨r10, hr10, hp⟩ := bind_some hp
      refine sx_rd' (rd_at' (K := (Kl (Ki .i64))) rfl rfl hr10 Try.underlying24 info23) rfl rfl (wt_none' rfl) ?_
      refine sx_rd' (rd_load_pt' rfl rfl flat23) rfl rfl (wt_none' rfl) ?_
      refine sx_rd' (rd_assign' rfl) rfl rfl (wt_none' rfl) ?_
      refine sx_nil' ?_
      show TX E K12 _
      refine tx_k' hK12 ?_
      refine cx_region' ?_
      refine sx_rd' (rd_move' rfl) rfl rfl (wt_none' rfl) ?_
      refine sx_rd' (rd_move' rfl) rfl rfl (wt_none' rfl) ?_
      obtain ⟨r14, hr14, hp⟩ := bind_some hp
      rcases r14 with y2 | y2
      · dsimp only at hp
        refine sx_ox' (ox_calln' (ent_fn' Try.func58 isn58 rfl rfl) (impl_ints_sim _ hr14 : Go.Sx.Fn Try.prog 58 [(Sl (Ki .i64) r10)] [] (fun x : Unit => (Vl (.slice none 0 0))) (fun x => [])) (Hn := fun x : Unit => [(Rw (Kl (Ki .i64)) 23 (Vs g901) x1)]) (fun _ => rfl) rfl rfl) (wt_none' rfl) fun ⟨⟩ => ?_
        refine tx_nilsl' 14 (Ki .i64) rfl rfl ?_
        refine sx_ox' (ox_rowlit' (K := (Kl (Ki .i64))) (xs := [[]]) (qs := [(0, [(Sl (Ki .i64) [])])]) ⟨rfl, ⟨_, rfl, (lv_sl _ _)⟩, trivial⟩ Try.underlying24 info23 rfl rfl rfl rfl rfl (by kernel_rfl) rfl rfl rfl) (wt_none' rfl) fun g15 => ?_
        obtain ⟨r16, hr16, hp⟩ := bind_some hp
        refine sx_ox' (ox_append' (K := (Kl (Ki .i64))) (i := 1) (xs := x1) (ys := ([[]])) rfl rfl rfl (sr_row' (j := 0) rfl rfl rfl Try.underlying24) hr16 Try.underlying24 info23 rfl rfl rfl (H' := [(Rw (Kl (Ki .i64)) 23 (Vs g15) ([[]]))]) rfl) (wt_none' rfl) fun g16 => ?_
        refine sx_rd' (rd_assign' rfl) rfl rfl (wt_none' rfl) ?_
        refine sx_nil' ?_
        show TX E K11 _
        refine tx_k' hK11 ?_
        refine cx_region' ?_
        refine sx_rd' (rd_bin' rfl rfl eg_int ru_add) rfl rfl (wt_none' rfl) ?_
        refine sx_rd' (rd_move' rfl) rfl rfl (wt_none' rfl) ?_
        refine sx_nil' ?_
        show TX E (KY1 _) _
        exact tx_pick' [0] (sub_cons rfl (sub_cons rfl (sub_cons rfl (sub_cons rfl sub_nil)))) (by decide) (pick_cons rfl pick_nil) (ih1 (r16, (iadd .i64 x2 1)) g16 _ hp)
      · dsimp only at hp
        refine sx_ox' (ox_calln' (ent_fn' Try.func58 isn58 rfl rfl) (impl_ints_sim _ hr14 : Go.Sx.Fn Try.prog 58 [(Sl (Ki .i64) r10)] [] (fun x : Unit => (Sl (Ki .i64) y2)) (fun x => [])) (Hn := fun x : Unit => [(Rw (Kl (Ki .i64)) 23 (Vs g901) x1)]) (fun _ => rfl) rfl rfl) (wt_none' rfl) fun ⟨⟩ => ?_
        refine sx_ox' (ox_rowlit' (K := (Kl (Ki .i64))) (xs := [y2]) (qs := [(0, [(Sl (Ki .i64) y2)])]) ⟨rfl, ⟨_, rfl, (lv_sl _ _)⟩, trivial⟩ Try.underlying24 info23 rfl rfl rfl rfl rfl (by kernel_rfl) rfl rfl rfl) (wt_none' rfl) fun g15 => ?_
        obtain ⟨r16, hr16, hp⟩ := bind_some hp
        refine sx_ox' (ox_append' (K := (Kl (Ki .i64))) (i := 1) (xs := x1) (ys := ([y2])) rfl rfl rfl (sr_row' (j := 0) rfl rfl rfl Try.underlying24) hr16 Try.underlying24 info23 rfl rfl rfl (H' := [(Rw (Kl (Ki .i64)) 23 (Vs g15) ([y2]))]) rfl) (wt_none' rfl) fun g16 => ?_
        refine sx_rd' (rd_assign' rfl) rfl rfl (wt_none' rfl) ?_
        refine sx_nil' ?_
        show TX E K11 _
        refine tx_k' hK11 ?_
        refine cx_region' ?_
        refine sx_rd' (rd_bin' rfl rfl eg_int ru_add) rfl rfl (wt_none' rfl) ?_
        refine sx_rd' (rd_move' rfl) rfl rfl (wt_none' rfl) ?_
        refine sx_nil' ?_
        show TX E (KY1 _) _
        exact tx_pick' [0] (sub_cons rfl (sub_cons rfl (sub_cons rfl (sub_cons rfl sub_nil)))) (by decide) (pick_cons rfl pick_nil) (ih1 (r16, (iadd .i64 x2 1)) g16 _ hp)
    · replace hp := (br_f h3).symm.trans hp
      refine cx_exit' ?_
      replace hp := Option.some.inj hp
      subst hp
      show TX E (Zg E (Exit.exit 0) _ (Exit.exit 0)) _
      exact tx_zend' g901 rfl [0] (sub_cons rfl sub_nil) (by decide) (pick_cons rfl pick_nil)
  · refine zg_out fun w2 => ?_
    show TX E K3 _
    refine tx_k' hK3 ?_
    refine cx_seq' fun K13 hK13 => ?_
    refine cx_region' ?_
    refine sx_rd' (rd_move' rfl) rfl rfl (wt_none' rfl) ?_
    refine sx_rd' (rd_assign' rfl) rfl rfl (wt_none' rfl) ?_
    refine sx_nil' ?_
    show TX E K13 _
    refine tx_k' hK13 ?_
    refine cx_retc' ?_
    replace hp := Option.some.inj hp
    subst hp
    refine tx_fz' (frz_row 0 [(3, (Vl (Vs w2)), (Sl (Kl (Ki .i64)) v2)), (18, (Vl (Vs w2)), (Sl (Kl (Ki .i64)) v2)), (2, (Vl (Vs w2)), (Sl (Kl (Ki .i64)) v2))] (K := (Kl (Ki .i64))) (xs := v2) (by decide) rfl ⟨⟨rfl, frz_it⟩, ⟨rfl, frz_it⟩, ⟨rfl, frz_it⟩, trivial⟩ (H' := []) frzH_refl) ?_
    refine tx_pick' (L' := [(2, (Sl (Kl (Ki .i64)) v2))]) (H' := []) [] (sub_cons rfl sub_nil) (by decide) pick_nil ?_
    exact tx_ret1' Try.results29 rfl () (rv_tmp' rfl) (List.Sublist.refl _)

def gogeom_NewMultiPolygonFlat (k : Nat) (a0 : Int) (a1 : List Nat) (a2 : List (List Int)) : Option (Int × Int × (List Nat) × Int × (List (List Int))) :=
  (gogeom_Layout_Stride k a0) >>= fun r18 =>
  some (a0, r18, a1, 0, a2)

theorem gogeom_NewMultiPolygonFlat_sim {k : Nat}  (a0 : Int) (a1 : List Nat) (a2 : List (List Int)) {out : Int × Int × (List Nat) × Int × (List (List Int))} (hp : gogeom_NewMultiPolygonFlat k a0 a1 a2 = some out) : Go.Sx.Fn Try.prog 73 [(Vl (.int .i64 a0)), (Sl Kf a1), (Sl (Kl (Ki .i64)) a2)] [] (fun w : Addr => (Vl (.pointer (some w)))) (fun w => [⟨.pointer (some w), [(Vl (.int .i64 out.1)), (Vl (.int .i64 out.2.1)), (Sl Kf out.2.2.1), (Vl (.int .i64 out.2.2.2.1)), (Sl (Kl (Ki .i64)) out.2.2.2.2)], 143, none⟩]) := by
  unfold gogeom_NewMultiPolygonFlat at hp
  refine fn_of Try.func73 rfl Try.ntmps73 rfl fun E hM => ?_
  refine cx_seq' fun K1 hK1 => ?_
  refine cx_region' ?_
  refine sx_rd' (rd_assign' rfl) rfl rfl (wt_none' rfl) ?_
  refine sx_nil' ?_
  show TX E K1 _
  refine tx_k' hK1 ?_
  refine cx_seq' fun K2 hK2 => ?_
  refine cx_region' ?_
  refine sx_ox' (ox_alloc' info143 rfl rfl rfl rfl (l := [(Vl (.int .i64 0)), (Vl (.int .i64 0)), (Vl (.slice none 0 0)), (Vl (.int .i64 0)), (Vl (.slice none 0 0))]) rfl) (wt_none' rfl) fun q8 => ?_
  refine sx_rd' (rd_assign' rfl) rfl rfl (wt_none' rfl) ?_
  refine sx_nil' ?_
  show TX E K2 _
  refine tx_k' hK2 ?_
  refine cx_seq' fun K3 hK3 => ?_
  refine cx_region' ?_
  refine sx_rd' (rd_move' rfl) rfl rfl (wt_none' rfl) ?_
  refine sx_rd' (rd_move' rfl) rfl rfl (wt_none' rfl) ?_
  refine sx_rd' (rd_nilck' rfl) rfl rfl (wt_none' rfl) ?_
  refine sx_rd' (rd_field0' rfl Try.underlying143 rfl info141 rfl) rfl rfl (wt_none' rfl) ?_
  refine sx_rd' (rd_field0' rfl Try.underlying141 rfl info126 rfl) rfl rfl (wt_none' rfl) ?_
  refine sx_rd' (rd_field0' rfl Try.underlying126 rfl info124 rfl) rfl rfl (wt_none' rfl) ?_
  refine sx_rd' (rd_field0' rfl Try.underlying124 rfl info61 rfl) rfl rfl (wt_none' rfl) ?_
  refine sx_ox' (ox_store' (i := 0) (o := 0) rfl rfl (lv_vl rfl rfl) ⟨rfl, rfl, rfl, rfl⟩ rfl info61 rfl (H' := [⟨.pointer (some q8), [(Vl (.int .i64 a0)), (Vl (.int .i64 0)), (Vl (.slice none 0 0)), (Vl (.int .i64 0)), (Vl (.slice none 0 0))], 143, none⟩]) rfl) (wt_none' rfl) fun _ => ?_
  refine sx_nil' ?_
  show TX E K3 _
  refine tx_k' hK3 ?_
  refine cx_seq' fun K4 hK4 => ?_
  refine cx_region' ?_
  refine sx_rd' (rd_move' rfl) rfl rfl (wt_none' rfl) ?_
  refine sx_rd' (rd_move' rfl) rfl rfl (wt_none' rfl) ?_
  obtain ⟨r18, hr18, hp⟩ := bind_some hp
  refine sx_ox' (ox_calln' (ent_fn' Try.func89 isn89 rfl rfl) (gogeom_Layout_Stride_sim _ hr18 : Go.Sx.Fn Try.prog 89 [(Vl (.int .i64 a0))] [] (fun x : Unit => (Vl (.int .i64 r18))) (fun x => [])) (Hn := fun x : Unit => [⟨.pointer (some q8), [(Vl (.int .i64 a0)), (Vl (.int .i64 0)), (Vl (.slice none 0 0)), (Vl (.int .i64 0)), (Vl (.slice none 0 0))], 143, none⟩]) (fun _ => rfl) rfl rfl) (wt_none' rfl) fun ⟨⟩ => ?_
  refine sx_rd' (rd_nilck' rfl) rfl rfl (wt_none' rfl) ?_
  refine sx_rd' (rd_field0' rfl Try.underlying143 rfl info141 rfl) rfl rfl (wt_none' rfl) ?_
  refine sx_rd' (rd_field0' rfl Try.underlying141 rfl info126 rfl) rfl rfl (wt_none' rfl) ?_
  refine sx_rd' (rd_field0' rfl Try.underlying126 rfl info124 rfl) rfl rfl (wt_none' rfl) ?_
  refine sx_rd' (rd_field' (off := 1) rfl Try.underlying124 rfl info3 rfl) rfl rfl (wt_none' rfl) ?_
  refine sx_ox' (ox_store' (i := 0) (o := 1) rfl rfl (lv_vl rfl rfl) ⟨rfl, rfl, rfl, rfl⟩ rfl info3 rfl (H' := [⟨.pointer (some q8), [(Vl (.int .i64 a0)), (Vl (.int .i64 r18)), (Vl (.slice none 0 0)), (Vl (.int .i64 0)), (Vl (.slice none 0 0))], 143, none⟩]) rfl) (wt_none' rfl) fun _ => ?_
  refine sx_nil' ?_
  show TX E K4 _
  refine tx_k' hK4 ?_
  refine cx_seq' fun K5 hK5 => ?_
  refine cx_region' ?_
  refine sx_rd' (rd_move' rfl) rfl rfl (wt_none' rfl) ?_
  refine sx_rd' (rd_move' rfl) rfl rfl (wt_none' rfl) ?_
  refine sx_rd' (rd_nilck' rfl) rfl rfl (wt_none' rfl) ?_
  refine sx_rd' (rd_field0' rfl Try.underlying143 rfl info141 rfl) rfl rfl (wt_none' rfl) ?_
  refine sx_rd' (rd_field0' rfl Try.underlying141 rfl info126 rfl) rfl rfl (wt_none' rfl) ?_
  refine sx_rd' (rd_field0' rfl Try.underlying126 rfl info124 rfl) rfl rfl (wt_none' rfl) ?_
  refine sx_rd' (rd_field' (off := 2) rfl Try.underlying124 rfl info22 rfl) rfl rfl (wt_none' rfl) ?_
  refine sx_ox' (ox_store' (i := 0) (o := 2) rfl rfl (lv_sl _ _) ⟨rfl, rfl, rfl, rfl⟩ rfl info22 rfl (H' := [⟨.pointer (some q8), [(Vl (.int .i64 a0)), (Vl (.int .i64 r18)), (Sl Kf a1), (Vl (.int .i64 0)), (Vl (.slice none 0 0))], 143, none⟩]) rfl) (wt_none' rfl) fun _ => ?_
  refine sx_nil' ?_
  show TX E K5 _
  refine tx_k' hK5 ?_
  refine cx_seq' fun K6 hK6 => ?_
  refine cx_region' ?_
  refine sx_rd' (rd_move' rfl) rfl rfl (wt_none' rfl) ?_
  refine sx_rd' (rd_move' rfl) rfl rfl (wt_none' rfl) ?_
  refine sx_rd' (rd_nilck' rfl) rfl rfl (wt_none' rfl) ?_
  refine sx_rd' (rd_field0' rfl Try.underlying143 rfl info141 rfl) rfl rfl (wt_none' rfl) ?_
  refine sx_rd' (rd_field' (off := 4) rfl Try.underlying141 rfl info24 rfl) rfl rfl (wt_none' rfl) ?_
  refine sx_ox' (ox_store' (i := 0) (o := 4) rfl rfl (lv_sl _ _) ⟨rfl, rfl, rfl, rfl⟩ rfl info24 rfl (H' := [⟨.pointer (some q8), [(Vl (.int .i64 a0)), (Vl (.int .i64 r18)), (Sl Kf a1), (Vl (.int .i64 0)), (Sl (Kl (Ki .i64)) a2)], 143, none⟩]) rfl) (wt_none' rfl) fun _ => ?_
  refine sx_nil' ?_
  show TX E K6 _
  refine tx_k' hK6 ?_
  refine cx_seq' fun K7 hK7 => ?_
  refine cx_region' ?_
  refine sx_rd' (rd_move' rfl) rfl rfl (wt_none' rfl) ?_
  refine sx_rd' (rd_assign' rfl) rfl rfl (wt_none' rfl) ?_
  refine sx_nil' ?_
  show TX E K7 _
  refine tx_k' hK7 ?_
  refine cx_retc' ?_
  replace hp := Option.some.inj hp
  subst hp
  refine tx_pick' (L' := [(6, (Vl (.pointer (some q8))))]) (H' := [⟨.pointer (some q8), [(Vl (.int .i64 a0)), (Vl (.int .i64 r18)), (Sl Kf a1), (Vl (.int .i64 0)), (Sl (Kl (Ki .i64)) a2)], 143, none⟩]) [0] (sub_cons rfl sub_nil) (by decide) (pick_cons rfl pick_nil) ?_
  exact tx_ret1' Try.results73 rfl q8 (rv_tmp' rfl) (List.Sublist.refl _)

def gogeom_MultiPolygon_SetSRID (k : Nat) (a0_0 : Int) (a0_1 : Int) (a0_2 : List Nat) (a0_3 : Int) (a0_4 : List (List Int)) (a1 : Int) : Option (Int × Int × (List Nat) × Int × (List (List Int))) :=
  some (a0_0, a0_1, a0_2, a1, a0_4)

theorem gogeom_MultiPolygon_SetSRID_sim {k : Nat} {wa0 : Addr} (a0_0 : Int) (a0_1 : Int) (a0_2 : List Nat) (a0_3 : Int) (a0_4 : List (List Int)) (a1 : Int) {out : Int × Int × (List Nat) × Int × (List (List Int))} (hp : gogeom_MultiPolygon_SetSRID k a0_0 a0_1 a0_2 a0_3 a0_4 a1 = some out) : Go.Sx.Fn Try.prog 74 [(Vl (.pointer (some wa0))), (Vl (.int .i64 a1))] [⟨.pointer (some wa0), [(Vl (.int .i64 a0_0)), (Vl (.int .i64 a0_1)), (Sl Kf a0_2), (Vl (.int .i64 a0_3)), (Sl (Kl (Ki .i64)) a0_4)], 143, none⟩] (fun w : Unit => (Vl (.pointer (some wa0)))) (fun w => [⟨.pointer (some wa0), [(Vl (.int .i64 out.1)), (Vl (.int .i64 out.2.1)), (Sl Kf out.2.2.1), (Vl (.int .i64 out.2.2.2.1)), (Sl (Kl (Ki .i64)) out.2.2.2.2)], 143, none⟩]) := by
  unfold gogeom_MultiPolygon_SetSRID at hp
  refine fn_of Try.func74 rfl Try.ntmps74 rfl fun E hM => ?_
  refine cx_seq' fun K1 hK1 => ?_
  refine cx_region' ?_
  refine sx_rd' (rd_assign' rfl) rfl rfl (wt_none' rfl) ?_
  refine sx_nil' ?_
  show TX E K1 _
  refine tx_k' hK1 ?_
  refine cx_seq' fun K2 hK2 => ?_
  refine cx_region' ?_
  refine sx_rd' (rd_move' rfl) rfl rfl (wt_none' rfl) ?_
  refine sx_rd' (rd_move' rfl) rfl rfl (wt_none' rfl) ?_
  refine sx_rd' (rd_nilck' rfl) rfl rfl (wt_none' rfl) ?_
  refine sx_rd' (rd_field0' rfl Try.underlying143 rfl info141 rfl) rfl rfl (wt_none' rfl) ?_
  refine sx_rd' (rd_field0' rfl Try.underlying141 rfl info126 rfl) rfl rfl (wt_none' rfl) ?_
  refine sx_rd' (rd_field0' rfl Try.underlying126 rfl info124 rfl) rfl rfl (wt_none' rfl) ?_
  refine sx_rd' (rd_field' (off := 3) rfl Try.underlying124 rfl info3 rfl) rfl rfl (wt_none' rfl) ?_
  refine sx_ox' (ox_store' (i := 0) (o := 3) rfl rfl (lv_vl rfl rfl) ⟨rfl, rfl, rfl, rfl⟩ rfl info3 rfl (H' := [⟨.pointer (some wa0), [(Vl (.int .i64 a0_0)), (Vl (.int .i64 a0_1)), (Sl Kf a0_2), (Vl (.int .i64 a1)), (Sl (Kl (Ki .i64)) a0_4)], 143, none⟩]) rfl) (wt_none' rfl) fun _ => ?_
  refine sx_nil' ?_
  show TX E K2 _
  refine tx_k' hK2 ?_
  refine cx_seq' fun K3 hK3 => ?_
  refine cx_region' ?_
  refine sx_rd' (rd_move' rfl) rfl rfl (wt_none' rfl) ?_
  refine sx_rd' (rd_assign' rfl) rfl rfl (wt_none' rfl) ?_
  refine sx_nil' ?_
  show TX E K3 _
  refine tx_k' hK3 ?_
  refine cx_retc' ?_
  replace hp := Option.some.inj hp
  subst hp
  refine tx_pick' (L' := [(4, (Vl (.pointer (some wa0))))]) (H' := [⟨.pointer (some wa0), [(Vl (.int .i64 a0_0)), (Vl (.int .i64 a0_1)), (Sl Kf a0_2), (Vl (.int .i64 a1)), (Sl (Kl (Ki .i64)) a0_4)], 143, none⟩]) [0] (sub_cons rfl sub_nil) (by decide) (pick_cons rfl pick_nil) ?_
  exact tx_ret1' Try.results74 rfl () (rv_tmp' rfl) (List.Sublist.refl _)

def gogeom_NewGeometryCollection (k : Nat)  : Option (Int) :=
  some 0

theorem gogeom_NewGeometryCollection_sim {k : Nat}   {out : Int} (hp : gogeom_NewGeometryCollection k = some out) : Go.Sx.Fn Try.prog 75 [] [] (fun w : Addr => (Vl (.pointer (some w)))) (fun w => [⟨.pointer (some w), [(Vl (.int .i64 out)), (Vl (.slice none 0 0)), (Vl (.int .i64 out))], 114, none⟩]) := by
  unfold gogeom_NewGeometryCollection at hp
  refine fn_of Try.func75 rfl Try.ntmps75 rfl fun E hM => ?_
  refine cx_seq' fun K1 hK1 => ?_
  refine cx_region' ?_
  refine sx_rd' (rd_assign' rfl) rfl rfl (wt_none' rfl) ?_
  refine sx_nil' ?_
  show TX E K1 _
  refine tx_k' hK1 ?_
  refine cx_seq' fun K2 hK2 => ?_
  refine cx_region' ?_
  refine sx_rd' (rd_build' (pls := [(0, 1), (1, 1), (2, 1)]) (qs := []) (r := [(Vl (.int .i64 0)), (Vl (.slice none 0 0)), (Vl (.int .i64 0))]) trivial Try.underlying114 has114 places114 info114 rfl rfl rfl) rfl rfl (wt_none' rfl) ?_
  refine sx_ox' (ox_box' rfl (lv_ag _) rfl rfl) (wt_none' rfl) fun q2 => ?_
  refine sx_rd' (rd_assign' rfl) rfl rfl (wt_none' rfl) ?_
  refine sx_nil' ?_
  show TX E K2 _
  refine tx_k' hK2 ?_
  refine cx_retc' ?_
  replace hp := Option.some.inj hp
  subst hp
  refine tx_pick' (L' := [(0, (Vl (.pointer (some q2))))]) (H' := [⟨.pointer (some q2), [(Vl (.int .i64 0)), (Vl (.slice none 0 0)), (Vl (.int .i64 0))], 114, none⟩]) [0] (sub_cons rfl sub_nil) (by decide) (pick_cons rfl pick_nil) ?_
  exact tx_ret1' Try.results75 rfl q2 (rv_tmp' rfl) (List.Sublist.refl _)

def gogeom_GeometryCollection_SetSRID (k : Nat) (a0_0 : Int) (a0_2 : Int) (a1 : Int) : Option (Int × Int) :=
  some (a0_0, a1)

theorem gogeom_GeometryCollection_SetSRID_sim {k : Nat} {wa0 : Addr} (a0_0 : Int) (a0_2 : Int) (a1 : Int) {out : Int × Int} (hp : gogeom_GeometryCollection_SetSRID k a0_0 a0_2 a1 = some out) : Go.Sx.Fn Try.prog 76 [(Vl (.pointer (some wa0))), (Vl (.int .i64 a1))] [⟨.pointer (some wa0), [(Vl (.int .i64 a0_0)), (Vl (.slice none 0 0)), (Vl (.int .i64 a0_2))], 114, none⟩] (fun w : Unit => (Vl (.pointer (some wa0)))) (fun w => [⟨.pointer (some wa0), [(Vl (.int .i64 out.1)), (Vl (.slice none 0 0)), (Vl (.int .i64 out.2))], 114, none⟩]) := by
  unfold gogeom_GeometryCollection_SetSRID at hp
  refine fn_of Try.func76 rfl Try.ntmps76 rfl fun E hM => ?_
  refine cx_seq' fun K1 hK1 => ?_
  refine cx_region' ?_
  refine sx_rd' (rd_assign' rfl) rfl rfl (wt_none' rfl) ?_
  refine sx_nil' ?_
  show TX E K1 _
  refine tx_k' hK1 ?_
  refine cx_seq' fun K2 hK2 => ?_
  refine cx_region' ?_
  refine sx_rd' (rd_move' rfl) rfl rfl (wt_none' rfl) ?_
  refine sx_rd' (rd_move' rfl) rfl rfl (wt_none' rfl) ?_
  refine sx_rd' (rd_nilck' rfl) rfl rfl (wt_none' rfl) ?_
  refine sx_rd' (rd_field' (off := 2) rfl Try.underlying114 rfl info3 rfl) rfl rfl (wt_none' rfl) ?_
  refine sx_ox' (ox_store' (i := 0) (o := 2) rfl rfl (lv_vl rfl rfl) ⟨rfl, rfl, rfl, rfl⟩ rfl info3 rfl (H' := [⟨.pointer (some wa0), [(Vl (.int .i64 a0_0)), (Vl (.slice none 0 0)), (Vl (.int .i64 a1))], 114, none⟩]) rfl) (wt_none' rfl) fun _ => ?_
  refine sx_nil' ?_
  show TX E K2 _
  refine tx_k' hK2 ?_
  refine cx_seq' fun K3 hK3 => ?_
  refine cx_region' ?_
  refine sx_rd' (rd_move' rfl) rfl rfl (wt_none' rfl) ?_
  refine sx_rd' (rd_assign' rfl) rfl rfl (wt_none' rfl) ?_
  refine sx_nil' ?_
  show TX E K3 _
  refine tx_k' hK3 ?_
  refine cx_retc' ?_
  replace hp := Option.some.inj hp
  subst hp
  refine tx_pick' (L' := [(4, (Vl (.pointer (some wa0))))]) (H' := [⟨.pointer (some wa0), [(Vl (.int .i64 a0_0)), (Vl (.slice none 0 0)), (Vl (.int .i64 a1))], 114, none⟩]) [0] (sub_cons rfl sub_nil) (by decide) (pick_cons rfl pick_nil) ?_
  exact tx_ret1' Try.results76 rfl () (rv_tmp' rfl) (List.Sublist.refl _)

def gogeom_GeometryCollection_CheckLayout_j1 (k : Nat) (a0_0 : Int) (a0_2 : Int) : Option (Int × Int) :=
  some (a0_0, a0_2)
def gogeom_GeometryCollection_CheckLayout (k : Nat) (a0_0 : Int) (a0_2 : Int) (a1 : Int) : Option (Int × Int) :=
  br (!decide (a1 = 0))
    (gogeom_GeometryCollection_CheckLayout_j1 k a0_0 a0_2)
    (gogeom_GeometryCollection_CheckLayout_j1 k a0_0 a0_2)

theorem gogeom_GeometryCollection_CheckLayout_sim {k : Nat} {wa0 : Addr} (a0_0 : Int) (a0_2 : Int) (a1 : Int) {out : Int × Int} (hp : gogeom_GeometryCollection_CheckLayout k a0_0 a0_2 a1 = some out) : Go.Sx.Fn Try.prog 79 [(Vl (.pointer (some wa0))), (Vl (.int .i64 a1))] [⟨.pointer (some wa0), [(Vl (.int .i64 a0_0)), (Vl (.slice none 0 0)), (Vl (.int .i64 a0_2))], 114, none⟩] (fun w : Unit => (Vl .nilIface)) (fun w => [⟨.pointer (some wa0), [(Vl (.int .i64 out.1)), (Vl (.slice none 0 0)), (Vl (.int .i64 out.2))], 114, none⟩]) := by
  unfold gogeom_GeometryCollection_CheckLayout at hp
  refine fn_of Try.func79 rfl Try.ntmps79 rfl fun E hM => ?_
  refine cx_seq' fun K1 hK1 => ?_
  refine cx_region' ?_
  refine sx_rd' (rd_assign' rfl) rfl rfl (wt_none' rfl) ?_
  refine sx_nil' ?_
  show TX E K1 _
  refine tx_k' hK1 ?_
  refine cx_join' (fun (v1 : Unit) => (⟨29, [], [], [⟨.pointer (some wa0), [(Vl (.int .i64 a0_0)), (Vl (.slice none 0 0)), (Vl (.int .i64 a0_2))], 114, none⟩]⟩ : St)) (fun (v1 : Unit) => gogeom_GeometryCollection_CheckLayout_j1 k a0_0 a0_2 = some out) ?_ ?_
  · rintro ⟨⟩ hp
    replace hp : gogeom_GeometryCollection_CheckLayout_j1 k a0_0 a0_2 = some out := hp
    unfold gogeom_GeometryCollection_CheckLayout_j1 at hp
    refine cx_seq' fun K7 hK7 => ?_
    refine cx_region' ?_
    refine sx_rd' (rd_assign' rfl) rfl rfl (wt_none' rfl) ?_
    refine sx_nil' ?_
    show TX E K7 _
    refine tx_k' hK7 ?_
    refine cx_retc' ?_
    replace hp := Option.some.inj hp
    subst hp
    refine tx_pick' (L' := [(4, (Vl .nilIface))]) (H' := [⟨.pointer (some wa0), [(Vl (.int .i64 a0_0)), (Vl (.slice none 0 0)), (Vl (.int .i64 a0_2))], 114, none⟩]) [0] (sub_cons rfl sub_nil) (by decide) (pick_cons rfl pick_nil) ?_
    exact tx_ret1' Try.results79 rfl () (rv_tmp' rfl) (List.Sublist.refl _)
  · intro K2 hK2
    refine cx_seq' fun K3 hK3 => ?_
    refine cx_region' ?_
    refine sx_rd' (rd_move' rfl) rfl rfl (wt_none' rfl) ?_
    refine sx_rd' (rd_bin' rfl rfl eg_int ru_neq) rfl rfl (wt_none' rfl) ?_
    refine sx_nil' ?_
    show TX E K3 _
    refine tx_k' hK3 ?_
    refine cx_cond' rfl (fun h1 => ?_) (fun h1 => ?_)
    · replace hp := (br_t h1).symm.trans hp
      refine cx_seq' fun K4 hK4 => ?_
      refine cx_region' ?_
      refine sx_rd' (rd_move' rfl) rfl rfl (wt_none' rfl) ?_
      refine sx_rd' (rd_nilck' rfl) rfl rfl (wt_none' rfl) ?_
      refine sx_rd' (rd_field' (off := 1) rfl Try.underlying114 rfl info112 rfl) rfl rfl (wt_none' rfl) ?_
      refine sx_rd' (rd_load' (i := 0) (o := 1) rfl ⟨rfl, rfl, rfl, rfl⟩ rfl flat112) rfl rfl (wt_none' rfl) ?_
      refine sx_rd' (rd_lenv' rfl Try.underlying112) rfl rfl (wt_none' rfl) ?_
      refine sx_rd' (rd_move' rfl) rfl rfl (wt_none' rfl) ?_
      refine sx_nil' ?_
      show TX E K4 _
      refine tx_k' hK4 ?_
      refine cx_block' ?_
      refine tx_loop' ?_
      refine tx_round' ?_
      refine cx_seq' fun K5 hK5 => ?_
      refine cx_region' ?_
      refine sx_rd' (rd_bin' rfl rfl eg_int ru_lss) rfl rfl (wt_none' rfl) ?_
      refine sx_nil' ?_
      show TX E K5 _
      refine tx_k' hK5 ?_
      refine cx_seq' fun K6 hK6 => ?_
      refine cx_cond_f' rfl rfl ?_
      refine cx_exit' ?_
      show TX E K2 _
      exact tx_pick' [0] sub_nil (by decide) (pick_cons rfl pick_nil) (hK2 () hp)
    · replace hp := (br_f h1).symm.trans hp
      refine cx_skip' ?_
      show TX E K2 _
      exact tx_pick' [0] sub_nil (by decide) (pick_cons rfl pick_nil) (hK2 () hp)

def gogeom_GeometryCollection_SetLayout (k : Nat) (a0_0 : Int) (a0_2 : Int) (a1 : Int) : Option (Int × Int) :=
  (gogeom_GeometryCollection_CheckLayout k a0_0 a0_2 a1) >>= fun r8 =>
  some (a1, r8.2)

theorem gogeom_GeometryCollection_SetLayout_sim {k : Nat} {wa0 : Addr} (a0_0 : Int) (a0_2 : Int) (a1 : Int) {out : Int × Int} (hp : gogeom_GeometryCollection_SetLayout k a0_0 a0_2 a1 = some out) : Go.Sx.Fn Try.prog 33 [(Vl (.pointer (some wa0))), (Vl (.int .i64 a1))] [⟨.pointer (some wa0), [(Vl (.int .i64 a0_0)), (Vl (.slice none 0 0)), (Vl (.int .i64 a0_2))], 114, none⟩] (fun w : Unit => (Vl .nilIface)) (fun w => [⟨.pointer (some wa0), [(Vl (.int .i64 out.1)), (Vl (.slice none 0 0)), (Vl (.int .i64 out.2))], 114, none⟩]) := by
  unfold gogeom_GeometryCollection_SetLayout at hp
  refine fn_of Try.func33 rfl Try.ntmps33 rfl fun E hM => ?_
  refine cx_seq' fun K1 hK1 => ?_
  refine cx_region' ?_
  refine sx_rd' (rd_assign' rfl) rfl rfl (wt_none' rfl) ?_
  refine sx_nil' ?_
  show TX E K1 _
  refine tx_k' hK1 ?_
  refine cx_seq' fun K2 hK2 => ?_
  refine cx_seq' fun K3 hK3 => ?_
  refine cx_region' ?_
  refine sx_rd' (rd_move' rfl) rfl rfl (wt_none' rfl) ?_
  refine sx_rd' (rd_move' rfl) rfl rfl (wt_none' rfl) ?_
  obtain ⟨r8, hr8, hp⟩ := bind_some hp
  refine sx_ox' (ox_callg' (ent_fn' Try.func79 isn79 rfl rfl) (gogeom_GeometryCollection_CheckLayout_sim _ _ _ hr8 : Go.Sx.Fn Try.prog 79 [(Vl (.pointer (some wa0))), (Vl (.int .i64 a1))] [⟨.pointer (some wa0), [(Vl (.int .i64 a0_0)), (Vl (.slice none 0 0)), (Vl (.int .i64 a0_2))], 114, none⟩] (fun x : Unit => (Vl .nilIface)) (fun x => [⟨.pointer (some wa0), [(Vl (.int .i64 r8.1)), (Vl (.slice none 0 0)), (Vl (.int .i64 r8.2))], 114, none⟩])) [0] [] (by decide) (pick_cons rfl pick_nil) pick_nil (Hn := fun x : Unit => [⟨.pointer (some wa0), [(Vl (.int .i64 r8.1)), (Vl (.slice none 0 0)), (Vl (.int .i64 r8.2))], 114, none⟩]) (fun _ => rfl) rfl rfl) (wt_none' rfl) fun ⟨⟩ => ?_
  refine sx_rd' (rd_assign' rfl) rfl rfl (wt_none' rfl) ?_
  refine sx_nil' ?_
  show TX E K3 _
  refine tx_k' hK3 ?_
  refine cx_seq' fun K4 hK4 => ?_
  refine cx_region' ?_
  refine sx_rd' (rd_move' rfl) rfl rfl (wt_none' rfl) ?_
  refine sx_rd' (rd_binf' rfl rfl (bf_vl (fun _ => by kernel_rfl) nil_neq59_nilif)) rfl rfl (wt_none' rfl) ?_
  refine sx_nil' ?_
  show TX E K4 _
  refine tx_k' hK4 ?_
  refine cx_cond_f' rfl rfl ?_
  refine cx_skip' ?_
  show TX E K2 _
  refine tx_k' hK2 ?_
  refine cx_seq' fun K5 hK5 => ?_
  refine cx_region' ?_
  refine sx_rd' (rd_move' rfl) rfl rfl (wt_none' rfl) ?_
  refine sx_rd' (rd_move' rfl) rfl rfl (wt_none' rfl) ?_
  refine sx_rd' (rd_nilck' rfl) rfl rfl (wt_none' rfl) ?_
  refine sx_rd' (rd_field0' rfl Try.underlying114 rfl info61 rfl) rfl rfl (wt_none' rfl) ?_
  refine sx_ox' (ox_store' (i := 0) (o := 0) rfl rfl (lv_vl rfl rfl) ⟨rfl, rfl, rfl, rfl⟩ rfl info61 rfl (H' := [⟨.pointer (some wa0), [(Vl (.int .i64 a1)), (Vl (.slice none 0 0)), (Vl (.int .i64 r8.2))], 114, none⟩]) rfl) (wt_none' rfl) fun _ => ?_
  refine sx_nil' ?_
  show TX E K5 _
  refine tx_k' hK5 ?_
  refine cx_seq' fun K6 hK6 => ?_
  refine cx_region' ?_
  refine sx_rd' (rd_assign' rfl) rfl rfl (wt_none' rfl) ?_
  refine sx_nil' ?_
  show TX E K6 _
  refine tx_k' hK6 ?_
  refine cx_retc' ?_
  replace hp := Option.some.inj hp
  subst hp
  refine tx_pick' (L' := [(4, (Vl .nilIface))]) (H' := [⟨.pointer (some wa0), [(Vl (.int .i64 a1)), (Vl (.slice none 0 0)), (Vl (.int .i64 r8.2))], 114, none⟩]) [0] (sub_cons rfl sub_nil) (by decide) (pick_cons rfl pick_nil) ?_
  exact tx_ret1' Try.results33 rfl () (rv_tmp' rfl) (List.Sublist.refl _)

def gogeom_GeometryCollection_MustSetLayout (k : Nat) (a0_0 : Int) (a0_2 : Int) (a1 : Int) : Option (Int × Int) :=
  (gogeom_GeometryCollection_SetLayout k a0_0 a0_2 a1) >>= fun r8 =>
  some (r8.1, r8.2)

theorem gogeom_GeometryCollection_MustSetLayout_sim {k : Nat} {wa0 : Addr} (a0_0 : Int) (a0_2 : Int) (a1 : Int) {out : Int × Int} (hp : gogeom_GeometryCollection_MustSetLayout k a0_0 a0_2 a1 = some out) : Go.Sx.Fn Try.prog 78 [(Vl (.pointer (some wa0))), (Vl (.int .i64 a1))] [⟨.pointer (some wa0), [(Vl (.int .i64 a0_0)), (Vl (.slice none 0 0)), (Vl (.int .i64 a0_2))], 114, none⟩] (fun w : Unit => (Vl (.pointer (some wa0)))) (fun w => [⟨.pointer (some wa0), [(Vl (.int .i64 out.1)), (Vl (.slice none 0 0)), (Vl (.int .i64 out.2))], 114, none⟩]) := by
  unfold gogeom_GeometryCollection_MustSetLayout at hp
  refine fn_of Try.func78 rfl Try.ntmps78 rfl fun E hM => ?_
  refine cx_seq' fun K1 hK1 => ?_
  refine cx_region' ?_
  refine sx_rd' (rd_assign' rfl) rfl rfl (wt_none' rfl) ?_
  refine sx_nil' ?_
  show TX E K1 _
  refine tx_k' hK1 ?_
  refine cx_seq' fun K2 hK2 => ?_
  refine cx_seq' fun K3 hK3 => ?_
  refine cx_region' ?_
  refine sx_rd' (rd_move' rfl) rfl rfl (wt_none' rfl) ?_
  refine sx_rd' (rd_move' rfl) rfl rfl (wt_none' rfl) ?_
  obtain ⟨r8, hr8, hp⟩ := bind_some hp
  refine sx_ox' (ox_callg' (ent_fn' Try.func33 isn33 rfl rfl) (gogeom_GeometryCollection_SetLayout_sim _ _ _ hr8 : Go.Sx.Fn Try.prog 33 [(Vl (.pointer (some wa0))), (Vl (.int .i64 a1))] [⟨.pointer (some wa0), [(Vl (.int .i64 a0_0)), (Vl (.slice none 0 0)), (Vl (.int .i64 a0_2))], 114, none⟩] (fun x : Unit => (Vl .nilIface)) (fun x => [⟨.pointer (some wa0), [(Vl (.int .i64 r8.1)), (Vl (.slice none 0 0)), (Vl (.int .i64 r8.2))], 114, none⟩])) [0] [] (by decide) (pick_cons rfl pick_nil) pick_nil (Hn := fun x : Unit => [⟨.pointer (some wa0), [(Vl (.int .i64 r8.1)), (Vl (.slice none 0 0)), (Vl (.int .i64 r8.2))], 114, none⟩]) (fun _ => rfl) rfl rfl) (wt_none' rfl) fun ⟨⟩ => ?_
  refine sx_rd' (rd_assign' rfl) rfl rfl (wt_none' rfl) ?_
  refine sx_nil' ?_
  show TX E K3 _
  refine tx_k' hK3 ?_
  refine cx_seq' fun K4 hK4 => ?_
  refine cx_region' ?_
  refine sx_rd' (rd_move' rfl) rfl rfl (wt_none' rfl) ?_
  refine sx_rd' (rd_binf' rfl rfl (bf_vl (fun _ => by kernel_rfl) nil_neq59_nilif)) rfl rfl (wt_none' rfl) ?_
  refine sx_nil' ?_
  show TX E K4 _
  refine tx_k' hK4 ?_
  refine cx_cond_f' rfl rfl ?_
  refine cx_skip' ?_
  show TX E K2 _
  refine tx_k' hK2 ?_
  refine cx_seq' fun K5 hK5 => ?_
  refine cx_region' ?_
  refine sx_rd' (rd_move' rfl) rfl rfl (wt_none' rfl) ?_
  refine sx_rd' (rd_assign' rfl) rfl rfl (wt_none' rfl) ?_
  refine sx_nil' ?_
  show TX E K5 _
  refine tx_k' hK5 ?_
  refine cx_retc' ?_
  replace hp := Option.some.inj hp
  subst hp
  refine tx_pick' (L' := [(4, (Vl (.pointer (some wa0))))]) (H' := [⟨.pointer (some wa0), [(Vl (.int .i64 r8.1)), (Vl (.slice none 0 0)), (Vl (.int .i64 r8.2))], 114, none⟩]) [0] (sub_cons rfl sub_nil) (by decide) (pick_cons rfl pick_nil) ?_
  exact tx_ret1' Try.results78 rfl () (rv_tmp' rfl) (List.Sublist.refl _)

def gogeom_geom0_Layout (k : Nat) (a0_0 : Int) (a0_1 : Int) (a0_2 : List Nat) (a0_3 : Int) : Option (Int) :=
  some a0_0

theorem gogeom_geom0_Layout_sim {k : Nat}  (a0_0 : Int) (a0_1 : Int) (a0_2 : List Nat) (a0_3 : Int) {out : Int} (hp : gogeom_geom0_Layout k a0_0 a0_1 a0_2 a0_3 = some out) : Go.Sx.Fn Try.prog 134 [(Pt [(Vl (.int .i64 a0_0)), (Vl (.int .i64 a0_1)), (Sl Kf a0_2), (Vl (.int .i64 a0_3))])] [] (fun w : Unit => (Vl (.int .i64 out))) (fun w => []) := by
  unfold gogeom_geom0_Layout at hp
  refine fn_of Try.func134 rfl Try.ntmps134 rfl fun E hM => ?_
  refine cx_seq' fun K1 hK1 => ?_
  refine cx_region' ?_
  refine sx_rd' (rd_assign' rfl) rfl rfl (wt_none' rfl) ?_
  refine sx_nil' ?_
  show TX E K1 _
  refine tx_k' hK1 ?_
  refine cx_seq' fun K2 hK2 => ?_
  refine cx_region' ?_
  refine sx_rd' (rd_move' rfl) rfl rfl (wt_none' rfl) ?_
  refine sx_rd' (rd_nilck_pt' rfl) rfl rfl (wt_none' rfl) ?_
  refine sx_rd' (rd_field_pt' (off := 0) rfl Try.underlying124 rfl info61 rfl (l' := [(Vl (.int .i64 a0_0)), (Vl (.int .i64 a0_1)), (Sl Kf a0_2), (Vl (.int .i64 a0_3))]) rfl) rfl rfl (wt_none' rfl) ?_
  refine sx_rd' (rd_load_pt' rfl rfl flat61) rfl rfl (wt_none' rfl) ?_
  refine sx_rd' (rd_assign' rfl) rfl rfl (wt_none' rfl) ?_
  refine sx_nil' ?_
  show TX E K2 _
  refine tx_k' hK2 ?_
  refine cx_retc' ?_
  replace hp := Option.some.inj hp
  subst hp
  refine tx_pick' (L' := [(2, (Vl (.int .i64 a0_0)))]) (H' := []) [] (sub_cons rfl sub_nil) (by decide) pick_nil ?_
  exact tx_ret1' Try.results134 rfl () (rv_tmp' rfl) (List.Sublist.refl _)

def gogeom_geom0_Layout_v2 (k : Nat) (a0_0 : Int) (a0_1 : Int) (a0_2 : List Nat) (a0_3 : Int) (a0_4 : List Int) : Option (Int) :=
  some a0_0

theorem gogeom_geom0_Layout_v2_sim {k : Nat}  (a0_0 : Int) (a0_1 : Int) (a0_2 : List Nat) (a0_3 : Int) (a0_4 : List Int) {out : Int} (hp : gogeom_geom0_Layout_v2 k a0_0 a0_1 a0_2 a0_3 a0_4 = some out) : Go.Sx.Fn Try.prog 134 [(Pt [(Vl (.int .i64 a0_0)), (Vl (.int .i64 a0_1)), (Sl Kf a0_2), (Vl (.int .i64 a0_3)), (Sl (Ki .i64) a0_4)])] [] (fun w : Unit => (Vl (.int .i64 out))) (fun w => []) := by
  unfold gogeom_geom0_Layout_v2 at hp
  refine fn_of Try.func134 rfl Try.ntmps134 rfl fun E hM => ?_
  refine cx_seq' fun K1 hK1 => ?_
  refine cx_region' ?_
  refine sx_rd' (rd_assign' rfl) rfl rfl (wt_none' rfl) ?_
  refine sx_nil' ?_
  show TX E K1 _
  refine tx_k' hK1 ?_
  refine cx_seq' fun K2 hK2 => ?_
  refine cx_region' ?_
  refine sx_rd' (rd_move' rfl) rfl rfl (wt_none' rfl) ?_
  refine sx_rd' (rd_nilck_pt' rfl) rfl rfl (wt_none' rfl) ?_
  refine sx_rd' (rd_field_pt' (off := 0) rfl Try.underlying124 rfl info61 rfl (l' := [(Vl (.int .i64 a0_0)), (Vl (.int .i64 a0_1)), (Sl Kf a0_2), (Vl (.int .i64 a0_3)), (Sl (Ki .i64) a0_4)]) rfl) rfl rfl (wt_none' rfl) ?_
  refine sx_rd' (rd_load_pt' rfl rfl flat61) rfl rfl (wt_none' rfl) ?_
  refine sx_rd' (rd_assign' rfl) rfl rfl (wt_none' rfl) ?_
  refine sx_nil' ?_
  show TX E K2 _
  refine tx_k' hK2 ?_
  refine cx_retc' ?_
  replace hp := Option.some.inj hp
  subst hp
  refine tx_pick' (L' := [(2, (Vl (.int .i64 a0_0)))]) (H' := []) [] (sub_cons rfl sub_nil) (by decide) pick_nil ?_
  exact tx_ret1' Try.results134 rfl () (rv_tmp' rfl) (List.Sublist.refl _)

def gogeom_geom0_Layout_v3 (k : Nat) (a0_0 : Int) (a0_1 : Int) (a0_2 : List Nat) (a0_3 : Int) (a0_4 : List (List Int)) : Option (Int) :=
  some a0_0

theorem gogeom_geom0_Layout_v3_sim {k : Nat}  (a0_0 : Int) (a0_1 : Int) (a0_2 : List Nat) (a0_3 : Int) (a0_4 : List (List Int)) {out : Int} (hp : gogeom_geom0_Layout_v3 k a0_0 a0_1 a0_2 a0_3 a0_4 = some out) : Go.Sx.Fn Try.prog 134 [(Pt [(Vl (.int .i64 a0_0)), (Vl (.int .i64 a0_1)), (Sl Kf a0_2), (Vl (.int .i64 a0_3)), (Sl (Kl (Ki .i64)) a0_4)])] [] (fun w : Unit => (Vl (.int .i64 out))) (fun w => []) := by
  unfold gogeom_geom0_Layout_v3 at hp
  refine fn_of Try.func134 rfl Try.ntmps134 rfl fun E hM => ?_
  refine cx_seq' fun K1 hK1 => ?_
  refine cx_region' ?_
  refine sx_rd' (rd_assign' rfl) rfl rfl (wt_none' rfl) ?_
  refine sx_nil' ?_
  show TX E K1 _
  refine tx_k' hK1 ?_
  refine cx_seq' fun K2 hK2 => ?_
  refine cx_region' ?_
  refine sx_rd' (rd_move' rfl) rfl rfl (wt_none' rfl) ?_
  refine sx_rd' (rd_nilck_pt' rfl) rfl rfl (wt_none' rfl) ?_
  refine sx_rd' (rd_field_pt' (off := 0) rfl Try.underlying124 rfl info61 rfl (l' := [(Vl (.int .i64 a0_0)), (Vl (.int .i64 a0_1)), (Sl Kf a0_2), (Vl (.int .i64 a0_3)), (Sl (Kl (Ki .i64)) a0_4)]) rfl) rfl rfl (wt_none' rfl) ?_
  refine sx_rd' (rd_load_pt' rfl rfl flat61) rfl rfl (wt_none' rfl) ?_
  refine sx_rd' (rd_assign' rfl) rfl rfl (wt_none' rfl) ?_
  refine sx_nil' ?_
  show TX E K2 _
  refine tx_k' hK2 ?_
  refine cx_retc' ?_
  replace hp := Option.some.inj hp
  subst hp
  refine tx_pick' (L' := [(2, (Vl (.int .i64 a0_0)))]) (H' := []) [] (sub_cons rfl sub_nil) (by decide) pick_nil ?_
  exact tx_ret1' Try.results134 rfl () (rv_tmp' rfl) (List.Sublist.refl _)

def gogeom_GeometryCollection_Layout_j2 (k : Nat) (rec1 : (Int × Int) → Option (Int)) (x4 : Int) (x2 : Int) : Option (Int) :=
  rec1 (x2, (iadd .i64 x4 1))
def gogeom_GeometryCollection_Layout_l1s (a0_1 : List G53) (recf : Int → (List G53) → Int → Option (Int)) (k : Nat) (rec1 : (Int × Int) → Option (Int)) (x3 : Int) (x4 : Int) : Option (Int) :=
  br (decide (x4 < (a0_1.length : Int)))
    ((idx a0_1 x4) >>= fun r23 =>
    match r23 with
      | .c0 r23_0a r23_0b r23_0c r23_0d =>
        ((gogeom_geom0_Layout k r23_0a r23_0b r23_0c r23_0d) >>= fun r26 =>
        br (decide (r26 = 2))
          (br (decide (x3 = 3))
            (gogeom_GeometryCollection_Layout_j2 k rec1 x4 4)
            (br (decide (x3 < r26))
              (gogeom_GeometryCollection_Layout_j2 k rec1 x4 r26)
              (gogeom_GeometryCollection_Layout_j2 k rec1 x4 x3)))
          (br (decide (r26 = 3))
            (br (decide (x3 = 2))
              (gogeom_GeometryCollection_Layout_j2 k rec1 x4 4)
              (br (decide (x3 < r26))
                (gogeom_GeometryCollection_Layout_j2 k rec1 x4 r26)
                (gogeom_GeometryCollection_Layout_j2 k rec1 x4 x3)))
            (br (decide (x3 < r26))
              (gogeom_GeometryCollection_Layout_j2 k rec1 x4 r26)
              (gogeom_GeometryCollection_Layout_j2 k rec1 x4 x3))))
      | .c1 r23_1a r23_1b r23_1c r23_1d =>
        ((gogeom_geom0_Layout k r23_1a r23_1b r23_1c r23_1d) >>= fun r26 =>
        br (decide (r26 = 2))
          (br (decide (x3 = 3))
            (gogeom_GeometryCollection_Layout_j2 k rec1 x4 4)
            (br (decide (x3 < r26))
              (gogeom_GeometryCollection_Layout_j2 k rec1 x4 r26)
              (gogeom_GeometryCollection_Layout_j2 k rec1 x4 x3)))
          (br (decide (r26 = 3))
            (br (decide (x3 = 2))
              (gogeom_GeometryCollection_Layout_j2 k rec1 x4 4)
              (br (decide (x3 < r26))
                (gogeom_GeometryCollection_Layout_j2 k rec1 x4 r26)
                (gogeom_GeometryCollection_Layout_j2 k rec1 x4 x3)))
            (br (decide (x3 < r26))
              (gogeom_GeometryCollection_Layout_j2 k rec1 x4 r26)
              (gogeom_GeometryCollection_Layout_j2 k rec1 x4 x3))))
      | .c2 r23_2a r23_2b r23_2c r23_2d =>
        ((gogeom_geom0_Layout k r23_2a r23_2b r23_2c r23_2d) >>= fun r26 =>
        br (decide (r26 = 2))
          (br (decide (x3 = 3))
            (gogeom_GeometryCollection_Layout_j2 k rec1 x4 4)
            (br (decide (x3 < r26))
              (gogeom_GeometryCollection_Layout_j2 k rec1 x4 r26)
              (gogeom_GeometryCollection_Layout_j2 k rec1 x4 x3)))
          (br (decide (r26 = 3))
            (br (decide (x3 = 2))
              (gogeom_GeometryCollection_Layout_j2 k rec1 x4 4)
              (br (decide (x3 < r26))
                (gogeom_GeometryCollection_Layout_j2 k rec1 x4 r26)
                (gogeom_GeometryCollection_Layout_j2 k rec1 x4 x3)))
            (br (decide (x3 < r26))
              (gogeom_GeometryCollection_Layout_j2 k rec1 x4 r26)
              (gogeom_GeometryCollection_Layout_j2 k rec1 x4 x3))))
      | .c3 r23_3a r23_3b r23_3c r23_3d r23_3e =>
        ((gogeom_geom0_Layout_v2 k r23_3a r23_3b r23_3c r23_3d r23_3e) >>= fun r26 =>
        br (decide (r26 = 2))
          (br (decide (x3 = 3))
            (gogeom_GeometryCollection_Layout_j2 k rec1 x4 4)
            (br (decide (x3 < r26))
              (gogeom_GeometryCollection_Layout_j2 k rec1 x4 r26)
              (gogeom_GeometryCollection_Layout_j2 k rec1 x4 x3)))
          (br (decide (r26 = 3))
            (br (decide (x3 = 2))
              (gogeom_GeometryCollection_Layout_j2 k rec1 x4 4)
              (br (decide (x3 < r26))
                (gogeom_GeometryCollection_Layout_j2 k rec1 x4 r26)
                (gogeom_GeometryCollection_Layout_j2 k rec1 x4 x3)))
            (br (decide (x3 < r26))
              (gogeom_GeometryCollection_Layout_j2 k rec1 x4 r26)
              (gogeom_GeometryCollection_Layout_j2 k rec1 x4 x3))))
      | .c4 r23_4a r23_4b r23_4c r23_4d r23_4e =>
        ((gogeom_geom0_Layout_v2 k r23_4a r23_4b r23_4c r23_4d r23_4e) >>= fun r26 =>
        br (decide (r26 = 2))
          (br (decide (x3 = 3))
            (gogeom_GeometryCollection_Layout_j2 k rec1 x4 4)
            (br (decide (x3 < r26))
              (gogeom_GeometryCollection_Layout_j2 k rec1 x4 r26)
              (gogeom_GeometryCollection_Layout_j2 k rec1 x4 x3)))
          (br (decide (r26 = 3))
            (br (decide (x3 = 2))
              (gogeom_GeometryCollection_Layout_j2 k rec1 x4 4)
              (br (decide (x3 < r26))
                (gogeom_GeometryCollection_Layout_j2 k rec1 x4 r26)
                (gogeom_GeometryCollection_Layout_j2 k rec1 x4 x3)))
            (br (decide (x3 < r26))
              (gogeom_GeometryCollection_Layout_j2 k rec1 x4 r26)
              (gogeom_GeometryCollection_Layout_j2 k rec1 x4 x3))))
      | .c5 r23_5a r23_5b r23_5c r23_5d r23_5e =>
        ((gogeom_geom0_Layout_v2 k r23_5a r23_5b r23_5c r23_5d r23_5e) >>= fun r26 =>
        br (decide (r26 = 2))
          (br (decide (x3 = 3))
            (gogeom_GeometryCollection_Layout_j2 k rec1 x4 4)
            (br (decide (x3 < r26))
              (gogeom_GeometryCollection_Layout_j2 k rec1 x4 r26)
              (gogeom_GeometryCollection_Layout_j2 k rec1 x4 x3)))
          (br (decide (r26 = 3))
            (br (decide (x3 = 2))
              (gogeom_GeometryCollection_Layout_j2 k rec1 x4 4)
              (br (decide (x3 < r26))
                (gogeom_GeometryCollection_Layout_j2 k rec1 x4 r26)
                (gogeom_GeometryCollection_Layout_j2 k rec1 x4 x3)))
            (br (decide (x3 < r26))
              (gogeom_GeometryCollection_Layout_j2 k rec1 x4 r26)
              (gogeom_GeometryCollection_Layout_j2 k rec1 x4 x3))))
      | .c6 r23_6a r23_6b r23_6c r23_6d r23_6e =>
        ((gogeom_geom0_Layout_v3 k r23_6a r23_6b r23_6c r23_6d r23_6e) >>= fun r26 =>
        br (decide (r26 = 2))
          (br (decide (x3 = 3))
            (gogeom_GeometryCollection_Layout_j2 k rec1 x4 4)
            (br (decide (x3 < r26))
              (gogeom_GeometryCollection_Layout_j2 k rec1 x4 r26)
              (gogeom_GeometryCollection_Layout_j2 k rec1 x4 x3)))
          (br (decide (r26 = 3))
            (br (decide (x3 = 2))
              (gogeom_GeometryCollection_Layout_j2 k rec1 x4 4)
              (br (decide (x3 < r26))
                (gogeom_GeometryCollection_Layout_j2 k rec1 x4 r26)
                (gogeom_GeometryCollection_Layout_j2 k rec1 x4 x3)))
            (br (decide (x3 < r26))
              (gogeom_GeometryCollection_Layout_j2 k rec1 x4 r26)
              (gogeom_GeometryCollection_Layout_j2 k rec1 x4 x3))))
      | .c7 r23_7a r23_7b r23_7c =>
        ((recf r23_7a r23_7b r23_7c) >>= fun r26 =>
        br (decide (r26 = 2))
          (br (decide (x3 = 3))
            (gogeom_GeometryCollection_Layout_j2 k rec1 x4 4)
            (br (decide (x3 < r26))
              (gogeom_GeometryCollection_Layout_j2 k rec1 x4 r26)
              (gogeom_GeometryCollection_Layout_j2 k rec1 x4 x3)))
          (br (decide (r26 = 3))
            (br (decide (x3 = 2))
              (gogeom_GeometryCollection_Layout_j2 k rec1 x4 4)
              (br (decide (x3 < r26))
                (gogeom_GeometryCollection_Layout_j2 k rec1 x4 r26)
                (gogeom_GeometryCollection_Layout_j2 k rec1 x4 x3)))
            (br (decide (x3 < r26))
              (gogeom_GeometryCollection_Layout_j2 k rec1 x4 r26)
              (gogeom_GeometryCollection_Layout_j2 k rec1 x4 x3)))))
    (some x3)
def gogeom_GeometryCollection_Layout_l1 (a0_1 : List G53) (recf : Int → (List G53) → Int → Option (Int)) : Nat → (Int × Int) → Option (Int)
  | 0, _ => none
  | k + 1, v => gogeom_GeometryCollection_Layout_l1s a0_1 recf k (gogeom_GeometryCollection_Layout_l1 a0_1 recf k) v.1 v.2
def gogeom_GeometryCollection_Layout_b (recf : Int → (List G53) → Int → Option (Int)) (k : Nat) (a0_0 : Int) (a0_1 : List G53) (a0_2 : Int) : Option (Int) :=
  br (!decide (a0_0 = 0))
    (some a0_0)
    ((gogeom_GeometryCollection_Layout_l1 a0_1 recf k (0, 0)) >>= fun v4 =>
    some v4)
def gogeom_GeometryCollection_Layout : Nat → Int → (List G53) → Int → Option (Int)
  | 0 => fun _ _ _ => none
  | k + 1 => fun a0_0 a0_1 a0_2 => gogeom_GeometryCollection_Layout_b (gogeom_GeometryCollection_Layout k) k a0_0 a0_1 a0_2

theorem gogeom_GeometryCollection_Layout_b_sim {recf : Int → (List G53) → Int → Option (Int)} (hrec : ∀  (a0_0 : Int) (a0_1 : List G53) (a0_2 : Int) (out : Int), recf a0_0 a0_1 a0_2 = some out → Go.Sx.Fn Try.prog 125 [(Pt [(Vl (.int .i64 a0_0)), (Sl KG53 a0_1), (Vl (.int .i64 a0_2))])] [] (fun w : Unit => (Vl (.int .i64 out))) (fun w => [])) {k : Nat}  (a0_0 : Int) (a0_1 : List G53) (a0_2 : Int) {out : Int} (hp : gogeom_GeometryCollection_Layout_b recf k a0_0 a0_1 a0_2 = some out) : Go.Sx.Fn Try.prog 125 [(Pt [(Vl (.int .i64 a0_0)), (Sl KG53 a0_1), (Vl (.int .i64 a0_2))])] [] (fun w : Unit => (Vl (.int .i64 out))) (fun w => []) := by
  unfold gogeom_GeometryCollection_Layout_b at hp
  refine fn_of Try.func125 rfl Try.ntmps125 rfl fun E hM => ?_
  refine cx_seq' fun K1 hK1 => ?_
  refine cx_region' ?_
  refine sx_rd' (rd_assign' rfl) rfl rfl (wt_none' rfl) ?_
  refine sx_nil' ?_
  show TX E K1 _
  refine tx_k' hK1 ?_
  refine cx_seq' fun K2 hK2 => ?_
  refine cx_seq' fun K3 hK3 => ?_
  refine cx_region' ?_
  refine sx_rd' (rd_move' rfl) rfl rfl (wt_none' rfl) ?_
  refine sx_rd' (rd_nilck_pt' rfl) rfl rfl (wt_none' rfl) ?_
  refine sx_rd' (rd_field_pt' (off := 0) rfl Try.underlying114 rfl info61 rfl (l' := [(Vl (.int .i64 a0_0)), (Sl KG53 a0_1), (Vl (.int .i64 a0_2))]) rfl) rfl rfl (wt_none' rfl) ?_
  refine sx_rd' (rd_load_pt' rfl rfl flat61) rfl rfl (wt_none' rfl) ?_
  refine sx_rd' (rd_bin' rfl rfl eg_int ru_neq) rfl rfl (wt_none' rfl) ?_
  refine sx_nil' ?_
  show TX E K3 _
  refine tx_k' hK3 ?_
  refine cx_cond' rfl (fun h1 => ?_) (fun h1 => ?_)
  · replace hp := (br_t h1).symm.trans hp
    refine cx_seq' fun K4 hK4 => ?_
    refine cx_region' ?_
    refine sx_rd' (rd_move' rfl) rfl rfl (wt_none' rfl) ?_
    refine sx_rd' (rd_nilck_pt' rfl) rfl rfl (wt_none' rfl) ?_
    refine sx_rd' (rd_field_pt' (off := 0) rfl Try.underlying114 rfl info61 rfl (l' := [(Vl (.int .i64 a0_0)), (Sl KG53 a0_1), (Vl (.int .i64 a0_2))]) rfl) rfl rfl (wt_none' rfl) ?_
    refine sx_rd' (rd_load_pt' rfl rfl flat61) rfl rfl (wt_none' rfl) ?_
    refine sx_rd' (rd_assign' rfl) rfl rfl (wt_none' rfl) ?_
    refine sx_nil' ?_
    show TX E K4 _
    refine tx_k' hK4 ?_
    refine cx_retc' ?_
    replace hp := Option.some.inj hp
    subst hp
    refine tx_pick' (L' := [(2, (Vl (.int .i64 a0_0)))]) (H' := []) [] (sub_cons rfl sub_nil) (by decide) pick_nil ?_
    exact tx_ret1' Try.results125 rfl () (rv_tmp' rfl) (List.Sublist.refl _)
  · replace hp := (br_f h1).symm.trans hp
    refine cx_skip' ?_
    show TX E K2 _
    refine tx_k' hK2 ?_
    refine cx_seq' fun K5 hK5 => ?_
    refine cx_region' ?_
    refine sx_rd' (rd_assign' rfl) rfl rfl (wt_none' rfl) ?_
    refine sx_nil' ?_
    show TX E K5 _
    refine tx_k' hK5 ?_
    refine cx_seq' fun K6 hK6 => ?_
    refine cx_seq' fun K7 hK7 => ?_
    refine cx_region' ?_
    refine sx_rd' (rd_move' rfl) rfl rfl (wt_none' rfl) ?_
    refine sx_rd' (rd_nilck_pt' rfl) rfl rfl (wt_none' rfl) ?_
    refine sx_rd' (rd_field_pt' (off := 1) rfl Try.underlying114 rfl info112 rfl (l' := [(Sl KG53 a0_1), (Vl (.int .i64 a0_2))]) rfl) rfl rfl (wt_none' rfl) ?_
    refine sx_rd' (rd_load_pt' rfl rfl flat112) rfl rfl (wt_none' rfl) ?_
    refine sx_rd' (rd_len' rfl Try.underlying112) rfl rfl (wt_none' rfl) ?_
    refine sx_rd' (rd_move' rfl) rfl rfl (wt_none' rfl) ?_
    refine sx_nil' ?_
    show TX E K7 _
    refine tx_k' hK7 ?_
    refine cx_block' ?_
    obtain ⟨v4, hy1, hp⟩ := bind_some hp
    refine cx_loopg' (F := gogeom_GeometryCollection_Layout_l1 a0_1 recf) (G := fun k R v => gogeom_GeometryCollection_Layout_l1s a0_1 recf k R v.1 v.2) (x := (0, 0)) (gh := ()) (fun (v2 : Int × Int) (w2 : Unit) => (⟨50, [], [(3, (Vl (.int .i64 v2.1))), (19, (Sl KG53 a0_1)), (20, (Vl (.int .i64 (a0_1.length : Int)))), (21, (Vl (.int .i64 v2.2)))], []⟩ : St)) (fun (v4 : Int) => Zg E (Exit.exit 0) (fun (w4 : Unit) => (⟨50, [], [(3, (Vl (.int .i64 v4)))], []⟩ : St))) (fun _ => rfl) (fun _ _ => rfl) ?_ hy1 (tx_to' rfl [] (sub_cons rfl (sub_cons rfl (sub_cons rfl (sub_cons rfl sub_nil)))) (by decide) pick_nil) ?_
    · clear hp hy1
      clear v4
      intro k rec1 KY1 ih1
      rintro ⟨x3, x4⟩ ⟨⟩ y1 hp
      replace hp : gogeom_GeometryCollection_Layout_l1s a0_1 recf k rec1 x3 x4 = some y1 := hp
      unfold gogeom_GeometryCollection_Layout_l1s at hp
      refine cx_seq' fun K21 hK21 => ?_
      refine cx_region' ?_
      refine sx_rd' (rd_bin' rfl rfl eg_int ru_lss) rfl rfl (wt_none' rfl) ?_
      refine sx_nil' ?_
      show TX E K21 _
      refine tx_k' hK21 ?_
      refine cx_seq' fun K22 hK22 => ?_
      refine cx_cond' rfl (fun h9 => ?_) (fun h9 => ?_)
      · replace hp := (br_t h9).symm.trans hp
        refine cx_skip' ?_
        show TX E K22 _
        refine tx_k' hK22 ?_
        refine cx_join' (fun (v3 : Int) => (⟨50, [], [(3, (Vl (.int .i64 v3))), (19, (Sl KG53 a0_1)), (20, (Vl (.int .i64 (a0_1.length : Int)))), (21, (Vl (.int .i64 x4)))], []⟩ : St)) (fun (v3 : Int) => gogeom_GeometryCollection_Layout_j2 k rec1 x4 v3 = some y1) ?_ ?_
        · rintro x2 hp
          replace hp : gogeom_GeometryCollection_Layout_j2 k rec1 x4 x2 = some y1 := hp
          unfold gogeom_GeometryCollection_Layout_j2 at hp
          refine cx_region' ?_
          refine sx_rd' (rd_bin' rfl rfl eg_int ru_add) rfl rfl (wt_none' rfl) ?_
          refine sx_rd' (rd_move' rfl) rfl rfl (wt_none' rfl) ?_
          refine sx_nil' ?_
          show TX E (KY1 _) _
          exact tx_pick' [] (sub_cons rfl (sub_cons rfl (sub_cons rfl (sub_cons rfl sub_nil)))) (by decide) pick_nil (ih1 (x2, (iadd .i64 x4 1)) () _ hp)
        · intro K23 hK23
          refine cx_block' ?_
          refine cx_seq' fun K24 hK24 => ?_
          refine cx_region' ?_
          obtain ⟨r23, hr23, hp⟩ := bind_some hp
          refine sx_rd' (rd_at' (K := KG53) rfl rfl hr23 Try.underlying112 info53) rfl rfl (wt_none' rfl) ?_
          refine sx_rd' (rd_load_pt' rfl rfl flat53) rfl rfl (wt_none' rfl) ?_
          refine sx_rd' (rd_assign' rfl) rfl rfl (wt_none' rfl) ?_
          refine sx_nil' ?_
          show TX E K24 _
          refine tx_k' hK24 ?_
          refine cx_seq' fun K25 hK25 => ?_
          refine cx_region' ?_
          refine sx_rd' (rd_move' rfl) rfl rfl (wt_none' rfl) ?_
          rcases r23 with ⟨r23_0a, r23_0b, r23_0c, r23_0d⟩ | ⟨r23_1a, r23_1b, r23_1c, r23_1d⟩ | ⟨r23_2a, r23_2b, r23_2c, r23_2d⟩ | ⟨r23_3a, r23_3b, r23_3c, r23_3d, r23_3e⟩ | ⟨r23_4a, r23_4b, r23_4c, r23_4d, r23_4e⟩ | ⟨r23_5a, r23_5b, r23_5c, r23_5d, r23_5e⟩ | ⟨r23_6a, r23_6b, r23_6c, r23_6d, r23_6e⟩ | ⟨r23_7a, r23_7b, r23_7c⟩
          · dsimp only at hp
            refine tx_slot' 24 (y := (If 72 (Pt [(Vl (.int .i64 r23_0a)), (Vl (.int .i64 r23_0b)), (Sl Kf r23_0c), (Vl (.int .i64 r23_0d))]))) rfl (imp_eq (SG53_c0 r23_0a r23_0b r23_0c r23_0d)) ?_
            refine tx_slot' 5 (y := (If 72 (Pt [(Vl (.int .i64 r23_0a)), (Vl (.int .i64 r23_0b)), (Sl Kf r23_0c), (Vl (.int .i64 r23_0d))]))) rfl (imp_eq (SG53_c0 r23_0a r23_0b r23_0c r23_0d)) ?_
            refine tx_slot' 25 (y := (If 72 (Pt [(Vl (.int .i64 r23_0a)), (Vl (.int .i64 r23_0b)), (Sl Kf r23_0c), (Vl (.int .i64 r23_0d))]))) rfl (imp_eq (SG53_c0 r23_0a r23_0b r23_0c r23_0d)) ?_
            obtain ⟨r26, hr26, hp⟩ := bind_some hp
            refine sx_ox' (ox_calln' (ent_inv' rfl rfl (inv_pt0 inv72_Layout)) (gogeom_geom0_Layout_sim _ _ _ _ hr26 : Go.Sx.Fn Try.prog 134 [(Pt [(Vl (.int .i64 r23_0a)), (Vl (.int .i64 r23_0b)), (Sl Kf r23_0c), (Vl (.int .i64 r23_0d))])] [] (fun x : Unit => (Vl (.int .i64 r26))) (fun x => [])) (Hn := fun x : Unit => []) (fun _ => rfl) rfl rfl) (wt_none' rfl) fun ⟨⟩ => ?_
            refine sx_rd' (rd_assign' rfl) rfl rfl (wt_none' rfl) ?_
            refine sx_nil' ?_
            show TX E K25 _
            refine tx_k' hK25 ?_
            refine cx_seq' fun K26 hK26 => ?_
            refine cx_region' ?_
            refine sx_rd' (rd_move' rfl) rfl rfl (wt_none' rfl) ?_
            refine sx_nil' ?_
            show TX E K26 _
            refine tx_k' hK26 ?_
            refine cx_block' ?_
            refine cx_seq' fun K27 hK27 => ?_
            refine cx_region' ?_
            refine sx_rd' (rd_bin' rfl rfl eg_int ru_eql) rfl rfl (wt_none' rfl) ?_
            refine sx_rd' (rd_assign' rfl) rfl rfl (wt_none' rfl) ?_
            refine sx_nil' ?_
            show TX E K27 _
            refine tx_k' hK27 ?_
            refine cx_cond' rfl (fun h10 => ?_) (fun h10 => ?_)
            · replace hp := (br_t h10).symm.trans hp
              refine cx_seq' fun K28 hK28 => ?_
              refine cx_region' ?_
              refine sx_rd' (rd_move' rfl) rfl rfl (wt_none' rfl) ?_
              refine sx_rd' (rd_bin' rfl rfl eg_int ru_eql) rfl rfl (wt_none' rfl) ?_
              refine sx_nil' ?_
              show TX E K28 _
              refine tx_k' hK28 ?_
              refine cx_cond' rfl (fun h15 => ?_) (fun h15 => ?_)
              · replace hp := (br_t h15).symm.trans hp
                refine cx_region' ?_
                refine sx_rd' (rd_assign' rfl) rfl rfl (wt_none' rfl) ?_
                refine sx_nil' ?_
                show TX E K23 _
                exact tx_pick' [] (sub_cons rfl (sub_cons rfl (sub_cons rfl (sub_cons rfl sub_nil)))) (by decide) pick_nil (hK23 4 hp)
              · replace hp := (br_f h15).symm.trans hp
                refine cx_seq' fun K29 hK29 => ?_
                refine cx_region' ?_
                refine sx_rd' (rd_move' rfl) rfl rfl (wt_none' rfl) ?_
                refine sx_rd' (rd_move' rfl) rfl rfl (wt_none' rfl) ?_
                refine sx_rd' (rd_bin' rfl rfl eg_int ru_gtr) rfl rfl (wt_none' rfl) ?_
                refine sx_nil' ?_
                show TX E K29 _
                refine tx_k' hK29 ?_
                refine cx_cond' rfl (fun h11 => ?_) (fun h11 => ?_)
                · replace hp := (br_t h11).symm.trans hp
                  refine cx_region' ?_
                  refine sx_rd' (rd_move' rfl) rfl rfl (wt_none' rfl) ?_
                  refine sx_rd' (rd_assign' rfl) rfl rfl (wt_none' rfl) ?_
                  refine sx_nil' ?_
                  show TX E K23 _
                  exact tx_pick' [] (sub_cons rfl (sub_cons rfl (sub_cons rfl (sub_cons rfl sub_nil)))) (by decide) pick_nil (hK23 r26 hp)
                · replace hp := (br_f h11).symm.trans hp
                  refine cx_skip' ?_
                  show TX E K23 _
                  exact tx_pick' [] (sub_cons rfl (sub_cons rfl (sub_cons rfl (sub_cons rfl sub_nil)))) (by decide) pick_nil (hK23 x3 hp)
            · replace hp := (br_f h10).symm.trans hp
              refine cx_seq' fun K30 hK30 => ?_
              refine cx_region' ?_
              refine sx_rd' (rd_bin' rfl rfl eg_int ru_eql) rfl rfl (wt_none' rfl) ?_
              refine sx_rd' (rd_assign' rfl) rfl rfl (wt_none' rfl) ?_
              refine sx_nil' ?_
              show TX E K30 _
              refine tx_k' hK30 ?_
              refine cx_cond' rfl (fun h12 => ?_) (fun h12 => ?_)
              · replace hp := (br_t h12).symm.trans hp
                refine cx_seq' fun K31 hK31 => ?_
                refine cx_region' ?_
                refine sx_rd' (rd_move' rfl) rfl rfl (wt_none' rfl) ?_
                refine sx_rd' (rd_bin' rfl rfl eg_int ru_eql) rfl rfl (wt_none' rfl) ?_
                refine sx_nil' ?_
                show TX E K31 _
                refine tx_k' hK31 ?_
                refine cx_cond' rfl (fun h16 => ?_) (fun h16 => ?_)
                · replace hp := (br_t h16).symm.trans hp
                  refine cx_region' ?_
                  refine sx_rd' (rd_assign' rfl) rfl rfl (wt_none' rfl) ?_
                  refine sx_nil' ?_
                  show TX E K23 _
                  exact tx_pick' [] (sub_cons rfl (sub_cons rfl (sub_cons rfl (sub_cons rfl sub_nil)))) (by decide) pick_nil (hK23 4 hp)
                · replace hp := (br_f h16).symm.trans hp
                  refine cx_seq' fun K32 hK32 => ?_
                  refine cx_region' ?_
                  refine sx_rd' (rd_move' rfl) rfl rfl (wt_none' rfl) ?_
                  refine sx_rd' (rd_move' rfl) rfl rfl (wt_none' rfl) ?_
                  refine sx_rd' (rd_bin' rfl rfl eg_int ru_gtr) rfl rfl (wt_none' rfl) ?_
                  refine sx_nil' ?_
                  show TX E K32 _
                  refine tx_k' hK32 ?_
                  refine cx_cond' rfl (fun h13 => ?_) (fun h13 => ?_)
                  · replace hp := (br_t h13).symm.trans hp
                    refine cx_region' ?_
                    refine sx_rd' (rd_move' rfl) rfl rfl (wt_none' rfl) ?_
                    refine sx_rd' (rd_assign' rfl) rfl rfl (wt_none' rfl) ?_
                    refine sx_nil' ?_
                    show TX E K23 _
                    exact tx_pick' [] (sub_cons rfl (sub_cons rfl (sub_cons rfl (sub_cons rfl sub_nil)))) (by decide) pick_nil (hK23 r26 hp)
                  · replace hp := (br_f h13).symm.trans hp
                    refine cx_skip' ?_
                    show TX E K23 _
                    exact tx_pick' [] (sub_cons rfl (sub_cons rfl (sub_cons rfl (sub_cons rfl sub_nil)))) (by decide) pick_nil (hK23 x3 hp)
              · replace hp := (br_f h12).symm.trans hp
                refine cx_seq' fun K33 hK33 => ?_
                refine cx_region' ?_
                refine sx_rd' (rd_move' rfl) rfl rfl (wt_none' rfl) ?_
                refine sx_rd' (rd_move' rfl) rfl rfl (wt_none' rfl) ?_
                refine sx_rd' (rd_bin' rfl rfl eg_int ru_gtr) rfl rfl (wt_none' rfl) ?_
                refine sx_nil' ?_
                show TX E K33 _
                refine tx_k' hK33 ?_
                refine cx_cond' rfl (fun h14 => ?_) (fun h14 => ?_)
                · replace hp := (br_t h14).symm.trans hp
                  refine cx_region' ?_
                  refine sx_rd' (rd_move' rfl) rfl rfl (wt_none' rfl) ?_
                  refine sx_rd' (rd_assign' rfl) rfl rfl (wt_none' rfl) ?_
                  refine sx_nil' ?_
                  show TX E K23 _
                  exact tx_pick' [] (sub_cons rfl (sub_cons rfl (sub_cons rfl (sub_cons rfl sub_nil)))) (by decide) pick_nil (hK23 r26 hp)
                · replace hp := (br_f h14).symm.trans hp
                  refine cx_skip' ?_
                  show TX E K23 _
                  exact tx_pick' [] (sub_cons rfl (sub_cons rfl (sub_cons rfl (sub_cons rfl sub_nil)))) (by decide) pick_nil (hK23 x3 hp)
          · dsimp only at hp
            refine tx_slot' 24 (y := (If 75 (Pt [(Vl (.int .i64 r23_1a)), (Vl (.int .i64 r23_1b)), (Sl Kf r23_1c), (Vl (.int .i64 r23_1d))]))) rfl (imp_eq (SG53_c1 r23_1a r23_1b r23_1c r23_1d)) ?_
            refine tx_slot' 5 (y := (If 75 (Pt [(Vl (.int .i64 r23_1a)), (Vl (.int .i64 r23_1b)), (Sl Kf r23_1c), (Vl (.int .i64 r23_1d))]))) rfl (imp_eq (SG53_c1 r23_1a r23_1b r23_1c r23_1d)) ?_
            refine tx_slot' 25 (y := (If 75 (Pt [(Vl (.int .i64 r23_1a)), (Vl (.int .i64 r23_1b)), (Sl Kf r23_1c), (Vl (.int .i64 r23_1d))]))) rfl (imp_eq (SG53_c1 r23_1a r23_1b r23_1c r23_1d)) ?_
            obtain ⟨r26, hr26, hp⟩ := bind_some hp
            refine sx_ox' (ox_calln' (ent_inv' rfl rfl (inv_pt0 inv75_Layout)) (gogeom_geom0_Layout_sim _ _ _ _ hr26 : Go.Sx.Fn Try.prog 134 [(Pt [(Vl (.int .i64 r23_1a)), (Vl (.int .i64 r23_1b)), (Sl Kf r23_1c), (Vl (.int .i64 r23_1d))])] [] (fun x : Unit => (Vl (.int .i64 r26))) (fun x => [])) (Hn := fun x : Unit => []) (fun _ => rfl) rfl rfl) (wt_none' rfl) fun ⟨⟩ => ?_
            refine sx_rd' (rd_assign' rfl) rfl rfl (wt_none' rfl) ?_
            refine sx_nil' ?_
            show TX E K25 _
            refine tx_k' hK25 ?_
            refine cx_seq' fun K26 hK26 => ?_
            refine cx_region' ?_
            refine sx_rd' (rd_move' rfl) rfl rfl (wt_none' rfl) ?_
            refine sx_nil' ?_
            show TX E K26 _
            refine tx_k' hK26 ?_
            refine cx_block' ?_
            refine cx_seq' fun K27 hK27 => ?_
            refine cx_region' ?_
            refine sx_rd' (rd_bin' rfl rfl eg_int ru_eql) rfl rfl (wt_none' rfl) ?_
            refine sx_rd' (rd_assign' rfl) rfl rfl (wt_none' rfl) ?_
            refine sx_nil' ?_
            show TX E K27 _
            refine tx_k' hK27 ?_
            refine cx_cond' rfl (fun h10 => ?_) (fun h10 => ?_)
            · replace hp := (br_t h10).symm.trans hp
              refine cx_seq' fun K28 hK28 => ?_
              refine cx_region' ?_
              refine sx_rd' (rd_move' rfl) rfl rfl (wt_none' rfl) ?_
              refine sx_rd' (rd_bin' rfl rfl eg_int ru_eql) rfl rfl (wt_none' rfl) ?_
              refine sx_nil' ?_
              show TX E K28 _
              refine tx_k' hK28 ?_
              refine cx_cond' rfl (fun h15 => ?_) (fun h15 => ?_)
              · replace hp := (br_t h15).symm.trans hp
                refine cx_region' ?_
                refine sx_rd' (rd_assign' rfl) rfl rfl (wt_none' rfl) ?_
                refine sx_nil' ?_
                show TX E K23 _
                exact tx_pick' [] (sub_cons rfl (sub_cons rfl (sub_cons rfl (sub_cons rfl sub_nil)))) (by decide) pick_nil (hK23 4 hp)
              · replace hp := (br_f h15).symm.trans hp
                refine cx_seq' fun K29 hK29 => ?_
                refine cx_region' ?_
                refine sx_rd' (rd_move' rfl) rfl rfl (wt_none' rfl) ?_
                refine sx_rd' (rd_move' rfl) rfl rfl (wt_none' rfl) ?_
                refine sx_rd' (rd_bin' rfl rfl eg_int ru_gtr) rfl rfl (wt_none' rfl) ?_
                refine sx_nil' ?_
                show TX E K29 _
                refine tx_k' hK29 ?_
                refine cx_cond' rfl (fun h11 => ?_) (fun h11 => ?_)
                · replace hp := (br_t h11).symm.trans hp
                  refine cx_region' ?_
                  refine sx_rd' (rd_move' rfl) rfl rfl (wt_none' rfl) ?_
                  refine sx_rd' (rd_assign' rfl) rfl rfl (wt_none' rfl) ?_
                  refine sx_nil' ?_
                  show TX E K23 _
                  exact tx_pick' [] (sub_cons rfl (sub_cons rfl (sub_cons rfl (sub_cons rfl sub_nil)))) (by decide) pick_nil (hK23 r26 hp)
                · replace hp := (br_f h11).symm.trans hp
                  refine cx_skip' ?_
                  show TX E K23 _
                  exact tx_pick' [] (sub_cons rfl (sub_cons rfl (sub_cons rfl (sub_cons rfl sub_nil)))) (by decide) pick_nil (hK23 x3 hp)
            · replace hp := (br_f h10).symm.trans hp
              refine cx_seq' fun K30 hK30 => ?_
              refine cx_region' ?_
              refine sx_rd' (rd_bin' rfl rfl eg_int ru_eql) rfl rfl (wt_none' rfl) ?_
              refine sx_rd' (rd_assign' rfl) rfl rfl (wt_none' rfl) ?_
              refine sx_nil' ?_
              show TX E K30 _
              refine tx_k' hK30 ?_
              refine cx_cond' rfl (fun h12 => ?_) (fun h12 => ?_)
              · replace hp := (br_t h12).symm.trans hp
                refine cx_seq' fun K31 hK31 => ?_
                refine cx_region' ?_
                refine sx_rd' (rd_move' rfl) rfl rfl (wt_none' rfl) ?_
                refine sx_rd' (rd_bin' rfl rfl eg_int ru_eql) rfl rfl (wt_none' rfl) ?_
                refine sx_nil' ?_
                show TX E K31 _
                refine tx_k' hK31 ?_
                refine cx_cond' rfl (fun h16 => ?_) (fun h16 => ?_)
                · replace hp := (br_t h16).symm.trans hp
                  refine cx_region' ?_
                  refine sx_rd' (rd_assign' rfl) rfl rfl (wt_none' rfl) ?_
                  refine sx_nil' ?_
                  show TX E K23 _
                  exact tx_pick' [] (sub_cons rfl (sub_cons rfl (sub_cons rfl (sub_cons rfl sub_nil)))) (by decide) pick_nil (hK23 4 hp)
                · replace hp := (br_f h16).symm.trans hp
                  refine cx_seq' fun K32 hK32 => ?_
                  refine cx_region' ?_
                  refine sx_rd' (rd_move' rfl) rfl rfl (wt_none' rfl) ?_
                  refine sx_rd' (rd_move' rfl) rfl rfl (wt_none' rfl) ?_
                  refine sx_rd' (rd_bin' rfl rfl eg_int ru_gtr) rfl rfl (wt_none' rfl) ?_
                  refine sx_nil' ?_
                  show TX E K32 _
                  refine tx_k' hK32 ?_
                  refine cx_cond' rfl (fun h13 => ?_) (fun h13 => ?_)
                  · replace hp := (br_t h13).symm.trans hp
                    refine cx_region' ?_
                    refine sx_rd' (rd_move' rfl) rfl rfl (wt_none' rfl) ?_
                    refine sx_rd' (rd_assign' rfl) rfl rfl (wt_none' rfl) ?_
                    refine sx_nil' ?_
                    show TX E K23 _
                    exact tx_pick' [] (sub_cons rfl (sub_cons rfl (sub_cons rfl (sub_cons rfl sub_nil)))) (by decide) pick_nil (hK23 r26 hp)
                  · replace hp := (br_f h13).symm.trans hp
                    refine cx_skip' ?_
                    show TX E K23 _
                    exact tx_pick' [] (sub_cons rfl (sub_cons rfl (sub_cons rfl (sub_cons rfl sub_nil)))) (by decide) pick_nil (hK23 x3 hp)
              · replace hp := (br_f h12).symm.trans hp
                refine cx_seq' fun K33 hK33 => ?_
                refine cx_region' ?_
                refine sx_rd' (rd_move' rfl) rfl rfl (wt_none' rfl) ?_
                refine sx_rd' (rd_move' rfl) rfl rfl (wt_none' rfl) ?_
                refine sx_rd' (rd_bin' rfl rfl eg_int ru_gtr) rfl rfl (wt_none' rfl) ?_
                refine sx_nil' ?_
                show TX E K33 _
                refine tx_k' hK33 ?_
                refine cx_cond' rfl (fun h14 => ?_) (fun h14 => ?_)
                · replace hp := (br_t h14).symm.trans hp
                  refine cx_region' ?_
                  refine sx_rd' (rd_move' rfl) rfl rfl (wt_none' rfl) ?_
                  refine sx_rd' (rd_assign' rfl) rfl rfl (wt_none' rfl) ?_
                  refine sx_nil' ?_
                  show TX E K23 _
                  exact tx_pick' [] (sub_cons rfl (sub_cons rfl (sub_cons rfl (sub_cons rfl sub_nil)))) (by decide) pick_nil (hK23 r26 hp)
                · replace hp := (br_f h14).symm.trans hp
                  refine cx_skip' ?_
                  show TX E K23 _
                  exact tx_pick' [] (sub_cons rfl (sub_cons rfl (sub_cons rfl (sub_cons rfl sub_nil)))) (by decide) pick_nil (hK23 x3 hp)
          · dsimp only at hp
            refine tx_slot' 24 (y := (If 69 (Pt [(Vl (.int .i64 r23_2a)), (Vl (.int .i64 r23_2b)), (Sl Kf r23_2c), (Vl (.int .i64 r23_2d))]))) rfl (imp_eq (SG53_c2 r23_2a r23_2b r23_2c r23_2d)) ?_
            refine tx_slot' 5 (y := (If 69 (Pt [(Vl (.int .i64 r23_2a)), (Vl (.int .i64 r23_2b)), (Sl Kf r23_2c), (Vl (.int .i64 r23_2d))]))) rfl (imp_eq (SG53_c2 r23_2a r23_2b r23_2c r23_2d)) ?_
            refine tx_slot' 25 (y := (If 69 (Pt [(Vl (.int .i64 r23_2a)), (Vl (.int .i64 r23_2b)), (Sl Kf r23_2c), (Vl (.int .i64 r23_2d))]))) rfl (imp_eq (SG53_c2 r23_2a r23_2b r23_2c r23_2d)) ?_
            obtain ⟨r26, hr26, hp⟩ := bind_some hp
            refine sx_ox' (ox_calln' (ent_inv' rfl rfl (inv_pt0 inv69_Layout)) (gogeom_geom0_Layout_sim _ _ _ _ hr26 : Go.Sx.Fn Try.prog 134 [(Pt [(Vl (.int .i64 r23_2a)), (Vl (.int .i64 r23_2b)), (Sl Kf r23_2c), (Vl (.int .i64 r23_2d))])] [] (fun x : Unit => (Vl (.int .i64 r26))) (fun x => [])) (Hn := fun x : Unit => []) (fun _ => rfl) rfl rfl) (wt_none' rfl) fun ⟨⟩ => ?_
            refine sx_rd' (rd_assign' rfl) rfl rfl (wt_none' rfl) ?_
            refine sx_nil' ?_
            show TX E K25 _
            refine tx_k' hK25 ?_
            refine cx_seq' fun K26 hK26 => ?_
            refine cx_region' ?_
            refine sx_rd' (rd_move' rfl) rfl rfl (wt_none' rfl) ?_
            refine sx_nil' ?_
            show TX E K26 _
            refine tx_k' hK26 ?_
            refine cx_block' ?_
            refine cx_seq' fun K27 hK27 => ?_
            refine cx_region' ?_
            refine sx_rd' (rd_bin' rfl rfl eg_int ru_eql) rfl rfl (wt_none' rfl) ?_
            refine sx_rd' (rd_assign' rfl) rfl rfl (wt_none' rfl) ?_
            refine sx_nil' ?_
            show TX E K27 _
            refine tx_k' hK27 ?_
            refine cx_cond' rfl (fun h10 => ?_) (fun h10 => ?_)
            · replace hp := (br_t h10).symm.trans hp
              refine cx_seq' fun K28 hK28 => ?_
              refine cx_region' ?_
              refine sx_rd' (rd_move' rfl) rfl rfl (wt_none' rfl) ?_
              refine sx_rd' (rd_bin' rfl rfl eg_int ru_eql) rfl rfl (wt_none' rfl) ?_
              refine sx_nil' ?_
              show TX E K28 _
              refine tx_k' hK28 ?_
              refine cx_cond' rfl (fun h15 => ?_) (fun h15 => ?_)
              · replace hp := (br_t h15).symm.trans hp
                refine cx_region' ?_
                refine sx_rd' (rd_assign' rfl) rfl rfl (wt_none' rfl) ?_
                refine sx_nil' ?_
                show TX E K23 _
                exact tx_pick' [] (sub_cons rfl (sub_cons rfl (sub_cons rfl (sub_cons rfl sub_nil)))) (by decide) pick_nil (hK23 4 hp)
              · replace hp := (br_f h15).symm.trans hp
                refine cx_seq' fun K29 hK29 => ?_
                refine cx_region' ?_
                refine sx_rd' (rd_move' rfl) rfl rfl (wt_none' rfl) ?_
                refine sx_rd' (rd_move' rfl) rfl rfl (wt_none' rfl) ?_
                refine sx_rd' (rd_bin' rfl rfl eg_int ru_gtr) rfl rfl (wt_none' rfl) ?_
                refine sx_nil' ?_
                show TX E K29 _
                refine tx_k' hK29 ?_
                refine cx_cond' rfl (fun h11 => ?_) (fun h11 => ?_)
                · replace hp := (br_t h11).symm.trans hp
                  refine cx_region' ?_
                  refine sx_rd' (rd_move' rfl) rfl rfl (wt_none' rfl) ?_
                  refine sx_rd' (rd_assign' rfl) rfl rfl (wt_none' rfl) ?_
                  refine sx_nil' ?_
                  show TX E K23 _
                  exact tx_pick' [] (sub_cons rfl (sub_cons rfl (sub_cons rfl (sub_cons rfl sub_nil)))) (by decide) pick_nil (hK23 r26 hp)
                · replace hp := (br_f h11).symm.trans hp
                  refine cx_skip' ?_
                  show TX E K23 _
                  exact tx_pick' [] (sub_cons rfl (sub_cons rfl (sub_cons rfl (sub_cons rfl sub_nil)))) (by decide) pick_nil (hK23 x3 hp)
            · replace hp := (br_f h10).symm.trans hp
              refine cx_seq' fun K30 hK30 => ?_
              refine cx_region' ?_
              refine sx_rd' (rd_bin' rfl rfl eg_int ru_eql) rfl rfl (wt_none' rfl) ?_
              refine sx_rd' (rd_assign' rfl) rfl rfl (wt_none' rfl) ?_
              refine sx_nil' ?_
              show TX E K30 _
              refine tx_k' hK30 ?_
              refine cx_cond' rfl (fun h12 => ?_) (fun h12 => ?_)
              · replace hp := (br_t h12).symm.trans hp
                refine cx_seq' fun K31 hK31 => ?_
                refine cx_region' ?_
                refine sx_rd' (rd_move' rfl) rfl rfl (wt_none' rfl) ?_
                refine sx_rd' (rd_bin' rfl rfl eg_int ru_eql) rfl rfl (wt_none' rfl) ?_
                refine sx_nil' ?_
                show TX E K31 _
                refine tx_k' hK31 ?_
                refine cx_cond' rfl (fun h16 => ?_) (fun h16 => ?_)
                · replace hp := (br_t h16).symm.trans hp
                  refine cx_region' ?_
                  refine sx_rd' (rd_assign' rfl) rfl rfl (wt_none' rfl) ?_
                  refine sx_nil' ?_
                  show TX E K23 _
                  exact tx_pick' [] (sub_cons rfl (sub_cons rfl (sub_cons rfl (sub_cons rfl sub_nil)))) (by decide) pick_nil (hK23 4 hp)
                · replace hp := (br_f h16).symm.trans hp
                  refine cx_seq' fun K32 hK32 => ?_
                  refine cx_region' ?_
                  refine sx_rd' (rd_move' rfl) rfl rfl (wt_none' rfl) ?_
                  refine sx_rd' (rd_move' rfl) rfl rfl (wt_none' rfl) ?_
                  refine sx_rd' (rd_bin' rfl rfl eg_int ru_gtr) rfl rfl (wt_none' rfl) ?_
                  refine sx_nil' ?_
                  show TX E K32 _
                  refine tx_k' hK32 ?_
                  refine cx_cond' rfl (fun h13 => ?_) (fun h13 => ?_)
                  · replace hp := (br_t h13).symm.trans hp
                    refine cx_region' ?_
                    refine sx_rd' (rd_move' rfl) rfl rfl (wt_none' rfl) ?_
                    refine sx_rd' (rd_assign' rfl) rfl rfl (wt_none' rfl) ?_
                    refine sx_nil' ?_
                    show TX E K23 _
                    exact tx_pick' [] (sub_cons rfl (sub_cons rfl (sub_cons rfl (sub_cons rfl sub_nil)))) (by decide) pick_nil (hK23 r26 hp)
                  · replace hp := (br_f h13).symm.trans hp
                    refine cx_skip' ?_
                    show TX E K23 _
                    exact tx_pick' [] (sub_cons rfl (sub_cons rfl (sub_cons rfl (sub_cons rfl sub_nil)))) (by decide) pick_nil (hK23 x3 hp)
              · replace hp := (br_f h12).symm.trans hp
                refine cx_seq' fun K33 hK33 => ?_
                refine cx_region' ?_
                refine sx_rd' (rd_move' rfl) rfl rfl (wt_none' rfl) ?_
                refine sx_rd' (rd_move' rfl) rfl rfl (wt_none' rfl) ?_
                refine sx_rd' (rd_bin' rfl rfl eg_int ru_gtr) rfl rfl (wt_none' rfl) ?_
                refine sx_nil' ?_
                show TX E K33 _
                refine tx_k' hK33 ?_
                refine cx_cond' rfl (fun h14 => ?_) (fun h14 => ?_)
                · replace hp := (br_t h14).symm.trans hp
                  refine cx_region' ?_
                  refine sx_rd' (rd_move' rfl) rfl rfl (wt_none' rfl) ?_
                  refine sx_rd' (rd_assign' rfl) rfl rfl (wt_none' rfl) ?_
                  refine sx_nil' ?_
                  show TX E K23 _
                  exact tx_pick' [] (sub_cons rfl (sub_cons rfl (sub_cons rfl (sub_cons rfl sub_nil)))) (by decide) pick_nil (hK23 r26 hp)
                · replace hp := (br_f h14).symm.trans hp
                  refine cx_skip' ?_
                  show TX E K23 _
                  exact tx_pick' [] (sub_cons rfl (sub_cons rfl (sub_cons rfl (sub_cons rfl sub_nil)))) (by decide) pick_nil (hK23 x3 hp)
          · dsimp only at hp
            refine tx_slot' 24 (y := (If 67 (Pt [(Vl (.int .i64 r23_3a)), (Vl (.int .i64 r23_3b)), (Sl Kf r23_3c), (Vl (.int .i64 r23_3d)), (Sl (Ki .i64) r23_3e)]))) rfl (imp_eq (SG53_c3 r23_3a r23_3b r23_3c r23_3d r23_3e)) ?_
            refine tx_slot' 5 (y := (If 67 (Pt [(Vl (.int .i64 r23_3a)), (Vl (.int .i64 r23_3b)), (Sl Kf r23_3c), (Vl (.int .i64 r23_3d)), (Sl (Ki .i64) r23_3e)]))) rfl (imp_eq (SG53_c3 r23_3a r23_3b r23_3c r23_3d r23_3e)) ?_
            refine tx_slot' 25 (y := (If 67 (Pt [(Vl (.int .i64 r23_3a)), (Vl (.int .i64 r23_3b)), (Sl Kf r23_3c), (Vl (.int .i64 r23_3d)), (Sl (Ki .i64) r23_3e)]))) rfl (imp_eq (SG53_c3 r23_3a r23_3b r23_3c r23_3d r23_3e)) ?_
            obtain ⟨r26, hr26, hp⟩ := bind_some hp
            refine sx_ox' (ox_calln' (ent_inv' rfl rfl (inv_pt0 inv67_Layout)) (gogeom_geom0_Layout_v2_sim _ _ _ _ _ hr26 : Go.Sx.Fn Try.prog 134 [(Pt [(Vl (.int .i64 r23_3a)), (Vl (.int .i64 r23_3b)), (Sl Kf r23_3c), (Vl (.int .i64 r23_3d)), (Sl (Ki .i64) r23_3e)])] [] (fun x : Unit => (Vl (.int .i64 r26))) (fun x => [])) (Hn := fun x : Unit => []) (fun _ => rfl) rfl rfl) (wt_none' rfl) fun ⟨⟩ => ?_
            refine sx_rd' (rd_assign' rfl) rfl rfl (wt_none' rfl) ?_
            refine sx_nil' ?_
            show TX E K25 _
            refine tx_k' hK25 ?_
            refine cx_seq' fun K26 hK26 => ?_
            refine cx_region' ?_
            refine sx_rd' (rd_move' rfl) rfl rfl (wt_none' rfl) ?_
            refine sx_nil' ?_
            show TX E K26 _
            refine tx_k' hK26 ?_
            refine cx_block' ?_
            refine cx_seq' fun K27 hK27 => ?_
            refine cx_region' ?_
            refine sx_rd' (rd_bin' rfl rfl eg_int ru_eql) rfl rfl (wt_none' rfl) ?_
            refine sx_rd' (rd_assign' rfl) rfl rfl (wt_none' rfl) ?_
            refine sx_nil' ?_
            show TX E K27 _
            refine tx_k' hK27 ?_
            refine cx_cond' rfl (fun h10 => ?_) (fun h10 => ?_)
            · replace hp := (br_t h10).symm.trans hp
              refine cx_seq' fun K28 hK28 => ?_
              refine cx_region' ?_
              refine sx_rd' (rd_move' rfl) rfl rfl (wt_none' rfl) ?_
              refine sx_rd' (rd_bin' rfl rfl eg_int ru_eql) rfl rfl (wt_none' rfl) ?_
              refine sx_nil' ?_
              show TX E K28 _
              refine tx_k' hK28 ?_
              refine cx_cond' rfl (fun h15 => ?_) (fun h15 => ?_)
              · replace hp := (br_t h15).symm.trans hp
                refine cx_region' ?_
                refine sx_rd' (rd_assign' rfl) rfl rfl (wt_none' rfl) ?_
                refine sx_nil' ?_
                show TX E K23 _
                exact tx_pick' [] (sub_cons rfl (sub_cons rfl (sub_cons rfl (sub_cons rfl sub_nil)))) (by decide) pick_nil (hK23 4 hp)
              · replace hp := (br_f h15).symm.trans hp
                refine cx_seq' fun K29 hK29 => ?_
                refine cx_region' ?_
                refine sx_rd' (rd_move' rfl) rfl rfl (wt_none' rfl) ?_
                refine sx_rd' (rd_move' rfl) rfl rfl (wt_none' rfl) ?_
                refine sx_rd' (rd_bin' rfl rfl eg_int ru_gtr) rfl rfl (wt_none' rfl) ?_
                refine sx_nil' ?_
                show TX E K29 _
                refine tx_k' hK29 ?_
                refine cx_cond' rfl (fun h11 => ?_) (fun h11 => ?_)
                · replace hp := (br_t h11).symm.trans hp
                  refine cx_region' ?_
                  refine sx_rd' (rd_move' rfl) rfl rfl (wt_none' rfl) ?_
                  refine sx_rd' (rd_assign' rfl) rfl rfl (wt_none' rfl) ?_
                  refine sx_nil' ?_
                  show TX E K23 _
                  exact tx_pick' [] (sub_cons rfl (sub_cons rfl (sub_cons rfl (sub_cons rfl sub_nil)))) (by decide) pick_nil (hK23 r26 hp)
                · replace hp := (br_f h11).symm.trans hp
                  refine cx_skip' ?_
                  show TX E K23 _
                  exact tx_pick' [] (sub_cons rfl (sub_cons rfl (sub_cons rfl (sub_cons rfl sub_nil)))) (by decide) pick_nil (hK23 x3 hp)
            · replace hp := (br_f h10).symm.trans hp
              refine cx_seq' fun K30 hK30 => ?_
              refine cx_region' ?_
              refine sx_rd' (rd_bin' rfl rfl eg_int ru_eql) rfl rfl (wt_none' rfl) ?_
              refine sx_rd' (rd_assign' rfl) rfl rfl (wt_none' rfl) ?_
              refine sx_nil' ?_
              show TX E K30 _
              refine tx_k' hK30 ?_
              refine cx_cond' rfl (fun h12 => ?_) (fun h12 => ?_)
              · replace hp := (br_t h12).symm.trans hp
                refine cx_seq' fun K31 hK31 => ?_
                refine cx_region' ?_
                refine sx_rd' (rd_move' rfl) rfl rfl (wt_none' rfl) ?_
                refine sx_rd' (rd_bin' rfl rfl eg_int ru_eql) rfl rfl (wt_none' rfl) ?_
                refine sx_nil' ?_
                show TX E K31 _
                refine tx_k' hK31 ?_
                refine cx_cond' rfl (fun h16 => ?_) (fun h16 => ?_)
                · replace hp := (br_t h16).symm.trans hp
                  refine cx_region' ?_
                  refine sx_rd' (rd_assign' rfl) rfl rfl (wt_none' rfl) ?_
                  refine sx_nil' ?_
                  show TX E K23 _
                  exact tx_pick' [] (sub_cons rfl (sub_cons rfl (sub_cons rfl (sub_cons rfl sub_nil)))) (by decide) pick_nil (hK23 4 hp)
                · replace hp := (br_f h16).symm.trans hp
                  refine cx_seq' fun K32 hK32 => ?_
                  refine cx_region' ?_
                  refine sx_rd' (rd_move' rfl) rfl rfl (wt_none' rfl) ?_
                  refine sx_rd' (rd_move' rfl) rfl rfl (wt_none' rfl) ?_
                  refine sx_rd' (rd_bin' rfl rfl eg_int ru_gtr) rfl rfl (wt_none' rfl) ?_
                  refine sx_nil' ?_
                  show TX E K32 _
                  refine tx_k' hK32 ?_
                  refine cx_cond' rfl (fun h13 => ?_) (fun h13 => ?_)
                  · replace hp := (br_t h13).symm.trans hp
                    refine cx_region' ?_
                    refine sx_rd' (rd_move' rfl) rfl rfl (wt_none' rfl) ?_
                    refine sx_rd' (rd_assign' rfl) rfl rfl (wt_none' rfl) ?_
                    refine sx_nil' ?_
                    show TX E K23 _
                    exact tx_pick' [] (sub_cons rfl (sub_cons rfl (sub_cons rfl (sub_cons rfl sub_nil)))) (by decide) pick_nil (hK23 r26 hp)
                  · replace hp := (br_f h13).symm.trans hp
                    refine cx_skip' ?_
                    show TX E K23 _
                    exact tx_pick' [] (sub_cons rfl (sub_cons rfl (sub_cons rfl (sub_cons rfl sub_nil)))) (by decide) pick_nil (hK23 x3 hp)
              · replace hp := (br_f h12).symm.trans hp
                refine cx_seq' fun K33 hK33 => ?_
                refine cx_region' ?_
                refine sx_rd' (rd_move' rfl) rfl rfl (wt_none' rfl) ?_
                refine sx_rd' (rd_move' rfl) rfl rfl (wt_none' rfl) ?_
                refine sx_rd' (rd_bin' rfl rfl eg_int ru_gtr) rfl rfl (wt_none' rfl) ?_
                refine sx_nil' ?_
                show TX E K33 _
                refine tx_k' hK33 ?_
                refine cx_cond' rfl (fun h14 => ?_) (fun h14 => ?_)
                · replace hp := (br_t h14).symm.trans hp
                  refine cx_region' ?_
                  refine sx_rd' (rd_move' rfl) rfl rfl (wt_none' rfl) ?_
                  refine sx_rd' (rd_assign' rfl) rfl rfl (wt_none' rfl) ?_
                  refine sx_nil' ?_
                  show TX E K23 _
                  exact tx_pick' [] (sub_cons rfl (sub_cons rfl (sub_cons rfl (sub_cons rfl sub_nil)))) (by decide) pick_nil (hK23 r26 hp)
                · replace hp := (br_f h14).symm.trans hp
                  refine cx_skip' ?_
                  show TX E K23 _
                  exact tx_pick' [] (sub_cons rfl (sub_cons rfl (sub_cons rfl (sub_cons rfl sub_nil)))) (by decide) pick_nil (hK23 x3 hp)
          · dsimp only at hp
            refine tx_slot' 24 (y := (If 70 (Pt [(Vl (.int .i64 r23_4a)), (Vl (.int .i64 r23_4b)), (Sl Kf r23_4c), (Vl (.int .i64 r23_4d)), (Sl (Ki .i64) r23_4e)]))) rfl (imp_eq (SG53_c4 r23_4a r23_4b r23_4c r23_4d r23_4e)) ?_
            refine tx_slot' 5 (y := (If 70 (Pt [(Vl (.int .i64 r23_4a)), (Vl (.int .i64 r23_4b)), (Sl Kf r23_4c), (Vl (.int .i64 r23_4d)), (Sl (Ki .i64) r23_4e)]))) rfl (imp_eq (SG53_c4 r23_4a r23_4b r23_4c r23_4d r23_4e)) ?_
            refine tx_slot' 25 (y := (If 70 (Pt [(Vl (.int .i64 r23_4a)), (Vl (.int .i64 r23_4b)), (Sl Kf r23_4c), (Vl (.int .i64 r23_4d)), (Sl (Ki .i64) r23_4e)]))) rfl (imp_eq (SG53_c4 r23_4a r23_4b r23_4c r23_4d r23_4e)) ?_
            obtain ⟨r26, hr26, hp⟩ := bind_some hp
            refine sx_ox' (ox_calln' (ent_inv' rfl rfl (inv_pt0 inv70_Layout)) (gogeom_geom0_Layout_v2_sim _ _ _ _ _ hr26 : Go.Sx.Fn Try.prog 134 [(Pt [(Vl (.int .i64 r23_4a)), (Vl (.int .i64 r23_4b)), (Sl Kf r23_4c), (Vl (.int .i64 r23_4d)), (Sl (Ki .i64) r23_4e)])] [] (fun x : Unit => (Vl (.int .i64 r26))) (fun x => [])) (Hn := fun x : Unit => []) (fun _ => rfl) rfl rfl) (wt_none' rfl) fun ⟨⟩ => ?_
            refine sx_rd' (rd_assign' rfl) rfl rfl (wt_none' rfl) ?_
            refine sx_nil' ?_
            show TX E K25 _
            refine tx_k' hK25 ?_
            refine cx_seq' fun K26 hK26 => ?_
            refine cx_region' ?_
            refine sx_rd' (rd_move' rfl) rfl rfl (wt_none' rfl) ?_
            refine sx_nil' ?_
            show TX E K26 _
            refine tx_k' hK26 ?_
            refine cx_block' ?_
            refine cx_seq' fun K27 hK27 => ?_
            refine cx_region' ?_
            refine sx_rd' (rd_bin' rfl rfl eg_int ru_eql) rfl rfl (wt_none' rfl) ?_
            refine sx_rd' (rd_assign' rfl) rfl rfl (wt_none' rfl) ?_
            refine sx_nil' ?_
            show TX E K27 _
            refine tx_k' hK27 ?_
            refine cx_cond' rfl (fun h10 => ?_) (fun h10 => ?_)
            · replace hp := (br_t h10).symm.trans hp
              refine cx_seq' fun K28 hK28 => ?_
              refine cx_region' ?_
              refine sx_rd' (rd_move' rfl) rfl rfl (wt_none' rfl) ?_
              refine sx_rd' (rd_bin' rfl rfl eg_int ru_eql) rfl rfl (wt_none' rfl) ?_
              refine sx_nil' ?_
              show TX E K28 _
              refine tx_k' hK28 ?_
              refine cx_cond' rfl (fun h15 => ?_) (fun h15 => ?_)
              · replace hp := (br_t h15).symm.trans hp
                refine cx_region' ?_
                refine sx_rd' (rd_assign' rfl) rfl rfl (wt_none' rfl) ?_
                refine sx_nil' ?_
                show TX E K23 _
                exact tx_pick' [] (sub_cons rfl (sub_cons rfl (sub_cons rfl (sub_cons rfl sub_nil)))) (by decide) pick_nil (hK23 4 hp)
              · replace hp := (br_f h15).symm.trans hp
                refine cx_seq' fun K29 hK29 => ?_
                refine cx_region' ?_
                refine sx_rd' (rd_move' rfl) rfl rfl (wt_none' rfl) ?_
                refine sx_rd' (rd_move' rfl) rfl rfl (wt_none' rfl) ?_
                refine sx_rd' (rd_bin' rfl rfl eg_int ru_gtr) rfl rfl (wt_none' rfl) ?_
                refine sx_nil' ?_
                show TX E K29 _
                refine tx_k' hK29 ?_
                refine cx_cond' rfl (fun h11 => ?_) (fun h11 => ?_)
                · replace hp := (br_t h11).symm.trans hp
                  refine cx_region' ?_
                  refine sx_rd' (rd_move' rfl) rfl rfl (wt_none' rfl) ?_
                  refine sx_rd' (rd_assign' rfl) rfl rfl (wt_none' rfl) ?_
                  refine sx_nil' ?_
                  show TX E K23 _
                  exact tx_pick' [] (sub_cons rfl (sub_cons rfl (sub_cons rfl (sub_cons rfl sub_nil)))) (by decide) pick_nil (hK23 r26 hp)
                · replace hp := (br_f h11).symm.trans hp
                  refine cx_skip' ?_
                  show TX E K23 _
                  exact tx_pick' [] (sub_cons rfl (sub_cons rfl (sub_cons rfl (sub_cons rfl sub_nil)))) (by decide) pick_nil (hK23 x3 hp)
            · replace hp := (br_f h10).symm.trans hp
              refine cx_seq' fun K30 hK30 => ?_
              refine cx_region' ?_
              refine sx_rd' (rd_bin' rfl rfl eg_int ru_eql) rfl rfl (wt_none' rfl) ?_
              refine sx_rd' (rd_assign' rfl) rfl rfl (wt_none' rfl) ?_
              refine sx_nil' ?_
              show TX E K30 _
              refine tx_k' hK30 ?_
              refine cx_cond' rfl (fun h12 => ?_) (fun h12 => ?_)
              · replace hp := (br_t h12).symm.trans hp
                refine cx_seq' fun K31 hK31 => ?_
                refine cx_region' ?_
                refine sx_rd' (rd_move' rfl) rfl rfl (wt_none' rfl) ?_
                refine sx_rd' (rd_bin' rfl rfl eg_int ru_eql) rfl rfl (wt_none' rfl) ?_
                refine sx_nil' ?_
                show TX E K31 _
                refine tx_k' hK31 ?_
                refine cx_cond' rfl (fun h16 => ?_) (fun h16 => ?_)
                · replace hp := (br_t h16).symm.trans hp
                  refine cx_region' ?_
                  refine sx_rd' (rd_assign' rfl) rfl rfl (wt_none' rfl) ?_
                  refine sx_nil' ?_
                  show TX E K23 _
                  exact tx_pick' [] (sub_cons rfl (sub_cons rfl (sub_cons rfl (sub_cons rfl sub_nil)))) (by decide) pick_nil (hK23 4 hp)
                · replace hp := (br_f h16).symm.trans hp
                  refine cx_seq' fun K32 hK32 => ?_
                  refine cx_region' ?_
                  refine sx_rd' (rd_move' rfl) rfl rfl (wt_none' rfl) ?_
                  refine sx_rd' (rd_move' rfl) rfl rfl (wt_none' rfl) ?_
                  refine sx_rd' (rd_bin' rfl rfl eg_int ru_gtr) rfl rfl (wt_none' rfl) ?_
                  refine sx_nil' ?_
                  show TX E K32 _
                  refine tx_k' hK32 ?_
                  refine cx_cond' rfl (fun h13 => ?_) (fun h13 => ?_)
                  · replace hp := (br_t h13).symm.trans hp
                    refine cx_region' ?_
                    refine sx_rd' (rd_move' rfl) rfl rfl (wt_none' rfl) ?_
                    refine sx_rd' (rd_assign' rfl) rfl rfl (wt_none' rfl) ?_
                    refine sx_nil' ?_
                    show TX E K23 _
                    exact tx_pick' [] (sub_cons rfl (sub_cons rfl (sub_cons rfl (sub_cons rfl sub_nil)))) (by decide) pick_nil (hK23 r26 hp)
                  · replace hp := (br_f h13).symm.trans hp
                    refine cx_skip' ?_
                    show TX E K23 _
                    exact tx_pick' [] (sub_cons rfl (sub_cons rfl (sub_cons rfl (sub_cons rfl sub_nil)))) (by decide) pick_nil (hK23 x3 hp)
              · replace hp := (br_f h12).symm.trans hp
                refine cx_seq' fun K33 hK33 => ?_
                refine cx_region' ?_
                refine sx_rd' (rd_move' rfl) rfl rfl (wt_none' rfl) ?_
                refine sx_rd' (rd_move' rfl) rfl rfl (wt_none' rfl) ?_
                refine sx_rd' (rd_bin' rfl rfl eg_int ru_gtr) rfl rfl (wt_none' rfl) ?_
                refine sx_nil' ?_
                show TX E K33 _
                refine tx_k' hK33 ?_
                refine cx_cond' rfl (fun h14 => ?_) (fun h14 => ?_)
                · replace hp := (br_t h14).symm.trans hp
                  refine cx_region' ?_
                  refine sx_rd' (rd_move' rfl) rfl rfl (wt_none' rfl) ?_
                  refine sx_rd' (rd_assign' rfl) rfl rfl (wt_none' rfl) ?_
                  refine sx_nil' ?_
                  show TX E K23 _
                  exact tx_pick' [] (sub_cons rfl (sub_cons rfl (sub_cons rfl (sub_cons rfl sub_nil)))) (by decide) pick_nil (hK23 r26 hp)
                · replace hp := (br_f h14).symm.trans hp
                  refine cx_skip' ?_
                  show TX E K23 _
                  exact tx_pick' [] (sub_cons rfl (sub_cons rfl (sub_cons rfl (sub_cons rfl sub_nil)))) (by decide) pick_nil (hK23 x3 hp)
          · dsimp only at hp
            refine tx_slot' 24 (y := (If 73 (Pt [(Vl (.int .i64 r23_5a)), (Vl (.int .i64 r23_5b)), (Sl Kf r23_5c), (Vl (.int .i64 r23_5d)), (Sl (Ki .i64) r23_5e)]))) rfl (imp_eq (SG53_c5 r23_5a r23_5b r23_5c r23_5d r23_5e)) ?_
            refine tx_slot' 5 (y := (If 73 (Pt [(Vl (.int .i64 r23_5a)), (Vl (.int .i64 r23_5b)), (Sl Kf r23_5c), (Vl (.int .i64 r23_5d)), (Sl (Ki .i64) r23_5e)]))) rfl (imp_eq (SG53_c5 r23_5a r23_5b r23_5c r23_5d r23_5e)) ?_
            refine tx_slot' 25 (y := (If 73 (Pt [(Vl (.int .i64 r23_5a)), (Vl (.int .i64 r23_5b)), (Sl Kf r23_5c), (Vl (.int .i64 r23_5d)), (Sl (Ki .i64) r23_5e)]))) rfl (imp_eq (SG53_c5 r23_5a r23_5b r23_5c r23_5d r23_5e)) ?_
            obtain ⟨r26, hr26, hp⟩ := bind_some hp
            refine sx_ox' (ox_calln' (ent_inv' rfl rfl (inv_pt0 inv73_Layout)) (gogeom_geom0_Layout_v2_sim _ _ _ _ _ hr26 : Go.Sx.Fn Try.prog 134 [(Pt [(Vl (.int .i64 r23_5a)), (Vl (.int .i64 r23_5b)), (Sl Kf r23_5c), (Vl (.int .i64 r23_5d)), (Sl (Ki .i64) r23_5e)])] [] (fun x : Unit => (Vl (.int .i64 r26))) (fun x => [])) (Hn := fun x : Unit => []) (fun _ => rfl) rfl rfl) (wt_none' rfl) fun ⟨⟩ => ?_
            refine sx_rd' (rd_assign' rfl) rfl rfl (wt_none' rfl) ?_
            refine sx_nil' ?_
            show TX E K25 _
            refine tx_k' hK25 ?_
            refine cx_seq' fun K26 hK26 => ?_
            refine cx_region' ?_
            refine sx_rd' (rd_move' rfl) rfl rfl (wt_none' rfl) ?_
            refine sx_nil' ?_
            show TX E K26 _
            refine tx_k' hK26 ?_
            refine cx_block' ?_
            refine cx_seq' fun K27 hK27 => ?_
            refine cx_region' ?_
            refine sx_rd' (rd_bin' rfl rfl eg_int ru_eql) rfl rfl (wt_none' rfl) ?_
            refine sx_rd' (rd_assign' rfl) rfl rfl (wt_none' rfl) ?_
            refine sx_nil' ?_
            show TX E K27 _
            refine tx_k' hK27 ?_
            refine cx_cond' rfl (fun h10 => ?_) (fun h10 => ?_)
            · replace hp := (br_t h10).symm.trans hp
              refine cx_seq' fun K28 hK28 => ?_
              refine cx_region' ?_
              refine sx_rd' (rd_move' rfl) rfl rfl (wt_none' rfl) ?_
              refine sx_rd' (rd_bin' rfl rfl eg_int ru_eql) rfl rfl (wt_none' rfl) ?_
              refine sx_nil' ?_
              show TX E K28 _
              refine tx_k' hK28 ?_
              refine cx_cond' rfl (fun h15 => ?_) (fun h15 => ?_)
              · replace hp := (br_t h15).symm.trans hp
                refine cx_region' ?_
                refine sx_rd' (rd_assign' rfl) rfl rfl (wt_none' rfl) ?_
                refine sx_nil' ?_
                show TX E K23 _
                exact tx_pick' [] (sub_cons rfl (sub_cons rfl (sub_cons rfl (sub_cons rfl sub_nil)))) (by decide) pick_nil (hK23 4 hp)
              · replace hp := (br_f h15).symm.trans hp
                refine cx_seq' fun K29 hK29 => ?_
                refine cx_region' ?_
                refine sx_rd' (rd_move' rfl) rfl rfl (wt_none' rfl) ?_
                refine sx_rd' (rd_move' rfl) rfl rfl (wt_none' rfl) ?_
                refine sx_rd' (rd_bin' rfl rfl eg_int ru_gtr) rfl rfl (wt_none' rfl) ?_
                refine sx_nil' ?_
                show TX E K29 _
                refine tx_k' hK29 ?_
                refine cx_cond' rfl (fun h11 => ?_) (fun h11 => ?_)
                · replace hp := (br_t h11).symm.trans hp
                  refine cx_region' ?_
                  refine sx_rd' (rd_move' rfl) rfl rfl (wt_none' rfl) ?_
                  refine sx_rd' (rd_assign' rfl) rfl rfl (wt_none' rfl) ?_
                  refine sx_nil' ?_
                  show TX E K23 _
                  exact tx_pick' [] (sub_cons rfl (sub_cons rfl (sub_cons rfl (sub_cons rfl sub_nil)))) (by decide) pick_nil (hK23 r26 hp)
                · replace hp := (br_f h11).symm.trans hp
                  refine cx_skip' ?_
                  show TX E K23 _
                  exact tx_pick' [] (sub_cons rfl (sub_cons rfl (sub_cons rfl (sub_cons rfl sub_nil)))) (by decide) pick_nil (hK23 x3 hp)
            · replace hp := (br_f h10).symm.trans hp
              refine cx_seq' fun K30 hK30 => ?_
              refine cx_region' ?_
              refine sx_rd' (rd_bin' rfl rfl eg_int ru_eql) rfl rfl (wt_none' rfl) ?_
              refine sx_rd' (rd_assign' rfl) rfl rfl (wt_none' rfl) ?_
              refine sx_nil' ?_
              show TX E K30 _
              refine tx_k' hK30 ?_
              refine cx_cond' rfl (fun h12 => ?_) (fun h12 => ?_)
              · replace hp := (br_t h12).symm.trans hp
                refine cx_seq' fun K31 hK31 => ?_
                refine cx_region' ?_
                refine sx_rd' (rd_move' rfl) rfl rfl (wt_none' rfl) ?_
                refine sx_rd' (rd_bin' rfl rfl eg_int ru_eql) rfl rfl (wt_none' rfl) ?_
                refine sx_nil' ?_
                show TX E K31 _
                refine tx_k' hK31 ?_
                refine cx_cond' rfl (fun h16 => ?_) (fun h16 => ?_)
                · replace hp := (br_t h16).symm.trans hp
                  refine cx_region' ?_
                  refine sx_rd' (rd_assign' rfl) rfl rfl (wt_none' rfl) ?_
                  refine sx_nil' ?_
                  show TX E K23 _
                  exact tx_pick' [] (sub_cons rfl (sub_cons rfl (sub_cons rfl (sub_cons rfl sub_nil)))) (by decide) pick_nil (hK23 4 hp)
                · replace hp := (br_f h16).symm.trans hp
                  refine cx_seq' fun K32 hK32 => ?_
                  refine cx_region' ?_
                  refine sx_rd' (rd_move' rfl) rfl rfl (wt_none' rfl) ?_
                  refine sx_rd' (rd_move' rfl) rfl rfl (wt_none' rfl) ?_
                  refine sx_rd' (rd_bin' rfl rfl eg_int ru_gtr) rfl rfl (wt_none' rfl) ?_
                  refine sx_nil' ?_
                  show TX E K32 _
                  refine tx_k' hK32 ?_
                  refine cx_cond' rfl (fun h13 => ?_) (fun h13 => ?_)
                  · replace hp := (br_t h13).symm.trans hp
                    refine cx_region' ?_
                    refine sx_rd' (rd_move' rfl) rfl rfl (wt_none' rfl) ?_
                    refine sx_rd' (rd_assign' rfl) rfl rfl (wt_none' rfl) ?_
                    refine sx_nil' ?_
                    show TX E K23 _
                    exact tx_pick' [] (sub_cons rfl (sub_cons rfl (sub_cons rfl (sub_cons rfl sub_nil)))) (by decide) pick_nil (hK23 r26 hp)
                  · replace hp := (br_f h13).symm.trans hp
                    refine cx_skip' ?_
                    show TX E K23 _
                    exact tx_pick' [] (sub_cons rfl (sub_cons rfl (sub_cons rfl (sub_cons rfl sub_nil)))) (by decide) pick_nil (hK23 x3 hp)
              · replace hp := (br_f h12).symm.trans hp
                refine cx_seq' fun K33 hK33 => ?_
                refine cx_region' ?_
                refine sx_rd' (rd_move' rfl) rfl rfl (wt_none' rfl) ?_
                refine sx_rd' (rd_move' rfl) rfl rfl (wt_none' rfl) ?_
                refine sx_rd' (rd_bin' rfl rfl eg_int ru_gtr) rfl rfl (wt_none' rfl) ?_
                refine sx_nil' ?_
                show TX E K33 _
                refine tx_k' hK33 ?_
                refine cx_cond' rfl (fun h14 => ?_) (fun h14 => ?_)
                · replace hp := (br_t h14).symm.trans hp
                  refine cx_region' ?_
                  refine sx_rd' (rd_move' rfl) rfl rfl (wt_none' rfl) ?_
                  refine sx_rd' (rd_assign' rfl) rfl rfl (wt_none' rfl) ?_
                  refine sx_nil' ?_
                  show TX E K23 _
                  exact tx_pick' [] (sub_cons rfl (sub_cons rfl (sub_cons rfl (sub_cons rfl sub_nil)))) (by decide) pick_nil (hK23 r26 hp)
                · replace hp := (br_f h14).symm.trans hp
                  refine cx_skip' ?_
                  show TX E K23 _
                  exact tx_pick' [] (sub_cons rfl (sub_cons rfl (sub_cons rfl (sub_cons rfl sub_nil)))) (by decide) pick_nil (hK23 x3 hp)
          · dsimp only at hp
            refine tx_slot' 24 (y := (If 76 (Pt [(Vl (.int .i64 r23_6a)), (Vl (.int .i64 r23_6b)), (Sl Kf r23_6c), (Vl (.int .i64 r23_6d)), (Sl (Kl (Ki .i64)) r23_6e)]))) rfl (imp_eq (SG53_c6 r23_6a r23_6b r23_6c r23_6d r23_6e)) ?_
            refine tx_slot' 5 (y := (If 76 (Pt [(Vl (.int .i64 r23_6a)), (Vl (.int .i64 r23_6b)), (Sl Kf r23_6c), (Vl (.int .i64 r23_6d)), (Sl (Kl (Ki .i64)) r23_6e)]))) rfl (imp_eq (SG53_c6 r23_6a r23_6b r23_6c r23_6d r23_6e)) ?_
            refine tx_slot' 25 (y := (If 76 (Pt [(Vl (.int .i64 r23_6a)), (Vl (.int .i64 r23_6b)), (Sl Kf r23_6c), (Vl (.int .i64 r23_6d)), (Sl (Kl (Ki .i64)) r23_6e)]))) rfl (imp_eq (SG53_c6 r23_6a r23_6b r23_6c r23_6d r23_6e)) ?_
            obtain ⟨r26, hr26, hp⟩ := bind_some hp
            refine sx_ox' (ox_calln' (ent_inv' rfl rfl (inv_pt0 inv76_Layout)) (gogeom_geom0_Layout_v3_sim _ _ _ _ _ hr26 : Go.Sx.Fn Try.prog 134 [(Pt [(Vl (.int .i64 r23_6a)), (Vl (.int .i64 r23_6b)), (Sl Kf r23_6c), (Vl (.int .i64 r23_6d)), (Sl (Kl (Ki .i64)) r23_6e)])] [] (fun x : Unit => (Vl (.int .i64 r26))) (fun x => [])) (Hn := fun x : Unit => []) (fun _ => rfl) rfl rfl) (wt_none' rfl) fun ⟨⟩ => ?_
            refine sx_rd' (rd_assign' rfl) rfl rfl (wt_none' rfl) ?_
            refine sx_nil' ?_
            show TX E K25 _
            refine tx_k' hK25 ?_
            refine cx_seq' fun K26 hK26 => ?_
            refine cx_region' ?_
            refine sx_rd' (rd_move' rfl) rfl rfl (wt_none' rfl) ?_
            refine sx_nil' ?_
            show TX E K26 _
            refine tx_k' hK26 ?_
            refine cx_block' ?_
            refine cx_seq' fun K27 hK27 => ?_
            refine cx_region' ?_
            refine sx_rd' (rd_bin' rfl rfl eg_int ru_eql) rfl rfl (wt_none' rfl) ?_
            refine sx_rd' (rd_assign' rfl) rfl rfl (wt_none' rfl) ?_
            refine sx_nil' ?_
            show TX E K27 _
            refine tx_k' hK27 ?_
            refine cx_cond' rfl (fun h10 => ?_) (fun h10 => ?_)
            · replace hp := (br_t h10).symm.trans hp
              refine cx_seq' fun K28 hK28 => ?_
              refine cx_region' ?_
              refine sx_rd' (rd_move' rfl) rfl rfl (wt_none' rfl) ?_
              refine sx_rd' (rd_bin' rfl rfl eg_int ru_eql) rfl rfl (wt_none' rfl) ?_
              refine sx_nil' ?_
              show TX E K28 _
              refine tx_k' hK28 ?_
              refine cx_cond' rfl (fun h15 => ?_) (fun h15 => ?_)
              · replace hp := (br_t h15).symm.trans hp
                refine cx_region' ?_
                refine sx_rd' (rd_assign' rfl) rfl rfl (wt_none' rfl) ?_
                refine sx_nil' ?_
                show TX E K23 _
                exact tx_pick' [] (sub_cons rfl (sub_cons rfl (sub_cons rfl (sub_cons rfl sub_nil)))) (by decide) pick_nil (hK23 4 hp)
              · replace hp := (br_f h15).symm.trans hp
                refine cx_seq' fun K29 hK29 => ?_
                refine cx_region' ?_
                refine sx_rd' (rd_move' rfl) rfl rfl (wt_none' rfl) ?_
                refine sx_rd' (rd_move' rfl) rfl rfl (wt_none' rfl) ?_
                refine sx_rd' (rd_bin' rfl rfl eg_int ru_gtr) rfl rfl (wt_none' rfl) ?_
                refine sx_nil' ?_
                show TX E K29 _
                refine tx_k' hK29 ?_
                refine cx_cond' rfl (fun h11 => ?_) (fun h11 => ?_)
                · replace hp := (br_t h11).symm.trans hp
                  refine cx_region' ?_
                  refine sx_rd' (rd_move' rfl) rfl rfl (wt_none' rfl) ?_
                  refine sx_rd' (rd_assign' rfl) rfl rfl (wt_none' rfl) ?_
                  refine sx_nil' ?_
                  show TX E K23 _
                  exact tx_pick' [] (sub_cons rfl (sub_cons rfl (sub_cons rfl (sub_cons rfl sub_nil)))) (by decide) pick_nil (hK23 r26 hp)
                · replace hp := (br_f h11).symm.trans hp
                  refine cx_skip' ?_
                  show TX E K23 _
                  exact tx_pick' [] (sub_cons rfl (sub_cons rfl (sub_cons rfl (sub_cons rfl sub_nil)))) (by decide) pick_nil (hK23 x3 hp)
            · replace hp := (br_f h10).symm.trans hp
              refine cx_seq' fun K30 hK30 => ?_
              refine cx_region' ?_
              refine sx_rd' (rd_bin' rfl rfl eg_int ru_eql) rfl rfl (wt_none' rfl) ?_
              refine sx_rd' (rd_assign' rfl) rfl rfl (wt_none' rfl) ?_
              refine sx_nil' ?_
              show TX E K30 _
              refine tx_k' hK30 ?_
              refine cx_cond' rfl (fun h12 => ?_) (fun h12 => ?_)
              · replace hp := (br_t h12).symm.trans hp
                refine cx_seq' fun K31 hK31 => ?_
                refine cx_region' ?_
                refine sx_rd' (rd_move' rfl) rfl rfl (wt_none' rfl) ?_
                refine sx_rd' (rd_bin' rfl rfl eg_int ru_eql) rfl rfl (wt_none' rfl) ?_
                refine sx_nil' ?_
                show TX E K31 _
                refine tx_k' hK31 ?_
                refine cx_cond' rfl (fun h16 => ?_) (fun h16 => ?_)
                · replace hp := (br_t h16).symm.trans hp
                  refine cx_region' ?_
                  refine sx_rd' (rd_assign' rfl) rfl rfl (wt_none' rfl) ?_
                  refine sx_nil' ?_
                  show TX E K23 _
                  exact tx_pick' [] (sub_cons rfl (sub_cons rfl (sub_cons rfl (sub_cons rfl sub_nil)))) (by decide) pick_nil (hK23 4 hp)
                · replace hp := (br_f h16).symm.trans hp
                  refine cx_seq' fun K32 hK32 => ?_
                  refine cx_region' ?_
                  refine sx_rd' (rd_move' rfl) rfl rfl (wt_none' rfl) ?_
                  refine sx_rd' (rd_move' rfl) rfl rfl (wt_none' rfl) ?_
                  refine sx_rd' (rd_bin' rfl rfl eg_int ru_gtr) rfl rfl (wt_none' rfl) ?_
                  refine sx_nil' ?_
                  show TX E K32 _
                  refine tx_k' hK32 ?_
                  refine cx_cond' rfl (fun h13 => ?_) (fun h13 => ?_)
                  · replace hp := (br_t h13).symm.trans hp
                    refine cx_region' ?_
                    refine sx_rd' (rd_move' rfl) rfl rfl (wt_none' rfl) ?_
                    refine sx_rd' (rd_assign' rfl) rfl rfl (wt_none' rfl) ?_
                    refine sx_nil' ?_
                    show TX E K23 _
                    exact tx_pick' [] (sub_cons rfl (sub_cons rfl (sub_cons rfl (sub_cons rfl sub_nil)))) (by decide) pick_nil (hK23 r26 hp)
                  · replace hp := (br_f h13).symm.trans hp
                    refine cx_skip' ?_
                    show TX E K23 _
                    exact tx_pick' [] (sub_cons rfl (sub_cons rfl (sub_cons rfl (sub_cons rfl sub_nil)))) (by decide) pick_nil (hK23 x3 hp)
              · replace hp := (br_f h12).symm.trans hp
                refine cx_seq' fun K33 hK33 => ?_
                refine cx_region' ?_
                refine sx_rd' (rd_move' rfl) rfl rfl (wt_none' rfl) ?_
                refine sx_rd' (rd_move' rfl) rfl rfl (wt_none' rfl) ?_
                refine sx_rd' (rd_bin' rfl rfl eg_int ru_gtr) rfl rfl (wt_none' rfl) ?_
                refine sx_nil' ?_
                show TX E K33 _
                refine tx_k' hK33 ?_
                refine cx_cond' rfl (fun h14 => ?_) (fun h14 => ?_)
                · replace hp := (br_t h14).symm.trans hp
                  refine cx_region' ?_
                  refine sx_rd' (rd_move' rfl) rfl rfl (wt_none' rfl) ?_
                  refine sx_rd' (rd_assign' rfl) rfl rfl (wt_none' rfl) ?_
                  refine sx_nil' ?_
                  show TX E K23 _
                  exact tx_pick' [] (sub_cons rfl (sub_cons rfl (sub_cons rfl (sub_cons rfl sub_nil)))) (by decide) pick_nil (hK23 r26 hp)
                · replace hp := (br_f h14).symm.trans hp
                  refine cx_skip' ?_
                  show TX E K23 _
                  exact tx_pick' [] (sub_cons rfl (sub_cons rfl (sub_cons rfl (sub_cons rfl sub_nil)))) (by decide) pick_nil (hK23 x3 hp)
          · dsimp only at hp
            refine tx_slot' 24 (y := (If 57 (Pt [(Vl (.int .i64 r23_7a)), (Sl KG53 r23_7b), (Vl (.int .i64 r23_7c))]))) rfl (imp_eq (SG53_c7 r23_7a r23_7b r23_7c)) ?_
            refine tx_slot' 5 (y := (If 57 (Pt [(Vl (.int .i64 r23_7a)), (Sl KG53 r23_7b), (Vl (.int .i64 r23_7c))]))) rfl (imp_eq (SG53_c7 r23_7a r23_7b r23_7c)) ?_
            refine tx_slot' 25 (y := (If 57 (Pt [(Vl (.int .i64 r23_7a)), (Sl KG53 r23_7b), (Vl (.int .i64 r23_7c))]))) rfl (imp_eq (SG53_c7 r23_7a r23_7b r23_7c)) ?_
            obtain ⟨r26, hr26, hp⟩ := bind_some hp
            refine sx_ox' (ox_calln' (ent_inv' rfl rfl (inv_any0 inv57_Layout)) (hrec _ _ _ _ hr26 : Go.Sx.Fn Try.prog 125 [(Pt [(Vl (.int .i64 r23_7a)), (Sl KG53 r23_7b), (Vl (.int .i64 r23_7c))])] [] (fun x : Unit => (Vl (.int .i64 r26))) (fun x => [])) (Hn := fun x : Unit => []) (fun _ => rfl) rfl rfl) (wt_none' rfl) fun ⟨⟩ => ?_
            refine sx_rd' (rd_assign' rfl) rfl rfl (wt_none' rfl) ?_
            refine sx_nil' ?_
            show TX E K25 _
            refine tx_k' hK25 ?_
            refine cx_seq' fun K26 hK26 => ?_
            refine cx_region' ?_
            refine sx_rd' (rd_move' rfl) rfl rfl (wt_none' rfl) ?_
            refine sx_nil' ?_
            show TX E K26 _
            refine tx_k' hK26 ?_
            refine cx_block' ?_
            refine cx_seq' fun K27 hK27 => ?_
            refine cx_region' ?_
            refine sx_rd' (rd_bin' rfl rfl eg_int ru_eql) rfl rfl (wt_none' rfl) ?_
            refine sx_rd' (rd_assign' rfl) rfl rfl (wt_none' rfl) ?_
            refine sx_nil' ?_
            show TX E K27 _
            refine tx_k' hK27 ?_
            refine cx_cond' rfl (fun h10 => ?_) (fun h10 => ?_)
            · replace hp := (br_t h10).symm.trans hp
              refine cx_seq' fun K28 hK28 => ?_
              refine cx_region' ?_
              refine sx_rd' (rd_move' rfl) rfl rfl (wt_none' rfl) ?_
              refine sx_rd' (rd_bin' rfl rfl eg_int ru_eql) rfl rfl (wt_none' rfl) ?_
              refine sx_nil' ?_
              show TX E K28 _
              refine tx_k' hK28 ?_
              refine cx_cond' rfl (fun h15 => ?_) (fun h15 => ?_)
              · replace hp := (br_t h15).symm.trans hp
                refine cx_region' ?_
                refine sx_rd' (rd_assign' rfl) rfl rfl (wt_none' rfl) ?_
                refine sx_nil' ?_
                show TX E K23 _
                exact tx_pick' [] (sub_cons rfl (sub_cons rfl (sub_cons rfl (sub_cons rfl sub_nil)))) (by decide) pick_nil (hK23 4 hp)
              · replace hp := (br_f h15).symm.trans hp
                refine cx_seq' fun K29 hK29 => ?_
                refine cx_region' ?_
                refine sx_rd' (rd_move' rfl) rfl rfl (wt_none' rfl) ?_
                refine sx_rd' (rd_move' rfl) rfl rfl (wt_none' rfl) ?_
                refine sx_rd' (rd_bin' rfl rfl eg_int ru_gtr) rfl rfl (wt_none' rfl) ?_
                refine sx_nil' ?_
                show TX E K29 _
                refine tx_k' hK29 ?_
                refine cx_cond' rfl (fun h11 => ?_) (fun h11 => ?_)
                · replace hp := (br_t h11).symm.trans hp
                  refine cx_region' ?_
                  refine sx_rd' (rd_move' rfl) rfl rfl (wt_none' rfl) ?_
                  refine sx_rd' (rd_assign' rfl) rfl rfl (wt_none' rfl) ?_
                  refine sx_nil' ?_
                  show TX E K23 _
                  exact tx_pick' [] (sub_cons rfl (sub_cons rfl (sub_cons rfl (sub_cons rfl sub_nil)))) (by decide) pick_nil (hK23 r26 hp)
                · replace hp := (br_f h11).symm.trans hp
                  refine cx_skip' ?_
                  show TX E K23 _
                  exact tx_pick' [] (sub_cons rfl (sub_cons rfl (sub_cons rfl (sub_cons rfl sub_nil)))) (by decide) pick_nil (hK23 x3 hp)
            · replace hp := (br_f h10).symm.trans hp
              refine cx_seq' fun K30 hK30 => ?_
              refine cx_region' ?_
              refine sx_rd' (rd_bin' rfl rfl eg_int ru_eql) rfl rfl (wt_none' rfl) ?_
              refine sx_rd' (rd_assign' rfl) rfl rfl (wt_none' rfl) ?_
              refine sx_nil' ?_
              show TX E K30 _
              refine tx_k' hK30 ?_
              refine cx_cond' rfl (fun h12 => ?_) (fun h12 => ?_)
              · replace hp := (br_t h12).symm.trans hp
                refine cx_seq' fun K31 hK31 => ?_
                refine cx_region' ?_
                refine sx_rd' (rd_move' rfl) rfl rfl (wt_none' rfl) ?_
                refine sx_rd' (rd_bin' rfl rfl eg_int ru_eql) rfl rfl (wt_none' rfl) ?_
                refine sx_nil' ?_
                show TX E K31 _
                refine tx_k' hK31 ?_
                refine cx_cond' rfl (fun h16 => ?_) (fun h16 => ?_)
                · replace hp := (br_t h16).symm.trans hp
                  refine cx_region' ?_
                  refine sx_rd' (rd_assign' rfl) rfl rfl (wt_none' rfl) ?_
                  refine sx_nil' ?_
                  show TX E K23 _
                  exact tx_pick' [] (sub_cons rfl (sub_cons rfl (sub_cons rfl (sub_cons rfl sub_nil)))) (by decide) pick_nil (hK23 4 hp)
                · replace hp := (br_f h16).symm.trans hp
                  refine cx_seq' fun K32 hK32 => ?_
                  refine cx_region' ?_
                  refine sx_rd' (rd_move' rfl) rfl rfl (wt_none' rfl) ?_
                  refine sx_rd' (rd_move' rfl) rfl rfl (wt_none' rfl) ?_
                  refine sx_rd' (rd_bin' rfl rfl eg_int ru_gtr) rfl rfl (wt_none' rfl) ?_
                  refine sx_nil' ?_
                  show TX E K32 _
                  refine tx_k' hK32 ?_
                  refine cx_cond' rfl (fun h13 => ?_) (fun h13 => ?_)
                  · replace hp := (br_t h13).symm.trans hp
                    refine cx_region' ?_
                    refine sx_rd' (rd_move' rfl) rfl rfl (wt_none' rfl) ?_
                    refine sx_rd' (rd_assign' rfl) rfl rfl (wt_none' rfl) ?_
                    refine sx_nil' ?_
                    show TX E K23 _
                    exact tx_pick' [] (sub_cons rfl (sub_cons rfl (sub_cons rfl (sub_cons rfl sub_nil)))) (by decide) pick_nil (hK23 r26 hp)
                  · replace hp := (br_f h13).symm.trans hp
                    refine cx_skip' ?_
                    show TX E K23 _
                    exact tx_pick' [] (sub_cons rfl (sub_cons rfl (sub_cons rfl (sub_cons rfl sub_nil)))) (by decide) pick_nil (hK23 x3 hp)
              · replace hp := (br_f h12).symm.trans hp
                refine cx_seq' fun K33 hK33 => ?_
                refine cx_region' ?_
                refine sx_rd' (rd_move' rfl) rfl rfl (wt_none' rfl) ?_
                refine sx_rd' (rd_move' rfl) rfl rfl (wt_none' rfl) ?_
                refine sx_rd' (rd_bin' rfl rfl eg_int ru_gtr) rfl rfl (wt_none' rfl) ?_
                refine sx_nil' ?_
                show TX E K33 _
                refine tx_k' hK33 ?_
                refine cx_cond' rfl (fun h14 => ?_) (fun h14 => ?_)
                · replace hp := (br_t h14).symm.trans hp
                  refine cx_region' ?_
                  refine sx_rd' (rd_move' rfl) rfl rfl (wt_none' rfl) ?_
                  refine sx_rd' (rd_assign' rfl) rfl rfl (wt_none' rfl) ?_
                  refine sx_nil' ?_
                  show TX E K23 _
                  exact tx_pick' [] (sub_cons rfl (sub_cons rfl (sub_cons rfl (sub_cons rfl sub_nil)))) (by decide) pick_nil (hK23 r26 hp)
                · replace hp := (br_f h14).symm.trans hp
                  refine cx_skip' ?_
                  show TX E K23 _
                  exact tx_pick' [] (sub_cons rfl (sub_cons rfl (sub_cons rfl (sub_cons rfl sub_nil)))) (by decide) pick_nil (hK23 x3 hp)
      · replace hp := (br_f h9).symm.trans hp
        refine cx_exit' ?_
        replace hp := Option.some.inj hp
        subst hp
        show TX E (Zg E (Exit.exit 0) _ (Exit.exit 0)) _
        exact tx_zend' () rfl [] (sub_cons rfl sub_nil) (by decide) pick_nil
    · refine zg_out fun w4 => ?_
      show TX E K6 _
      refine tx_k' hK6 ?_
      refine cx_seq' fun K34 hK34 => ?_
      refine cx_region' ?_
      refine sx_rd' (rd_move' rfl) rfl rfl (wt_none' rfl) ?_
      refine sx_rd' (rd_assign' rfl) rfl rfl (wt_none' rfl) ?_
      refine sx_nil' ?_
      show TX E K34 _
      refine tx_k' hK34 ?_
      refine cx_retc' ?_
      replace hp := Option.some.inj hp
      subst hp
      refine tx_pick' (L' := [(2, (Vl (.int .i64 v4)))]) (H' := []) [] (sub_cons rfl sub_nil) (by decide) pick_nil ?_
      exact tx_ret1' Try.results125 rfl () (rv_tmp' rfl) (List.Sublist.refl _)
theorem gogeom_GeometryCollection_Layout_simA : ∀ (k : Nat)  (a0_0 : Int) (a0_1 : List G53) (a0_2 : Int) (out : Int), gogeom_GeometryCollection_Layout k a0_0 a0_1 a0_2 = some out → Go.Sx.Fn Try.prog 125 [(Pt [(Vl (.int .i64 a0_0)), (Sl KG53 a0_1), (Vl (.int .i64 a0_2))])] [] (fun w : Unit => (Vl (.int .i64 out))) (fun w => []) := by
  intro k
  induction k with
  | zero => intro a0_0 a0_1 a0_2 out hp; cases hp
  | succ k ih => intro a0_0 a0_1 a0_2 out hp; exact gogeom_GeometryCollection_Layout_b_sim ih a0_0 a0_1 a0_2 hp
theorem gogeom_GeometryCollection_Layout_sim {k : Nat}  (a0_0 : Int) (a0_1 : List G53) (a0_2 : Int) {out : Int} (hp : gogeom_GeometryCollection_Layout k a0_0 a0_1 a0_2 = some out) : Go.Sx.Fn Try.prog 125 [(Pt [(Vl (.int .i64 a0_0)), (Sl KG53 a0_1), (Vl (.int .i64 a0_2))])] [] (fun w : Unit => (Vl (.int .i64 out))) (fun w => []) := gogeom_GeometryCollection_Layout_simA k a0_0 a0_1 a0_2 out hp

def gogeom_GeometryCollection_Push_j1 (k : Nat) (a1 : List G53) (a0_0 : Int) (a0_2 : Int) : Option ((Int × (List G53) × Int) ⊕ (Int × Int × Int)) :=
  (apd 16 [] a1) >>= fun r41 =>
  some (.inl (a0_0, r41, a0_2))
def gogeom_GeometryCollection_Push_l1s (a1 : List G53) (a0_0 : Int) (k : Nat) (rec1 : Int → Option (Int ⊕ Unit)) (x1 : Int) : Option (Int ⊕ Unit) :=
  br (decide (x1 < (a1.length : Int)))
    ((idx a1 x1) >>= fun r17 =>
    match r17 with
      | .c0 r17_0a r17_0b r17_0c r17_0d =>
        ((gogeom_geom0_Layout k r17_0a r17_0b r17_0c r17_0d) >>= fun r20 =>
        br (!decide (r20 = a0_0))
          (some (.inl r20))
          (rec1 (iadd .i64 x1 1)))
      | .c1 r17_1a r17_1b r17_1c r17_1d =>
        ((gogeom_geom0_Layout k r17_1a r17_1b r17_1c r17_1d) >>= fun r20 =>
        br (!decide (r20 = a0_0))
          (some (.inl r20))
          (rec1 (iadd .i64 x1 1)))
      | .c2 r17_2a r17_2b r17_2c r17_2d =>
        ((gogeom_geom0_Layout k r17_2a r17_2b r17_2c r17_2d) >>= fun r20 =>
        br (!decide (r20 = a0_0))
          (some (.inl r20))
          (rec1 (iadd .i64 x1 1)))
      | .c3 r17_3a r17_3b r17_3c r17_3d r17_3e =>
        ((gogeom_geom0_Layout_v2 k r17_3a r17_3b r17_3c r17_3d r17_3e) >>= fun r20 =>
        br (!decide (r20 = a0_0))
          (some (.inl r20))
          (rec1 (iadd .i64 x1 1)))
      | .c4 r17_4a r17_4b r17_4c r17_4d r17_4e =>
        ((gogeom_geom0_Layout_v2 k r17_4a r17_4b r17_4c r17_4d r17_4e) >>= fun r20 =>
        br (!decide (r20 = a0_0))
          (some (.inl r20))
          (rec1 (iadd .i64 x1 1)))
      | .c5 r17_5a r17_5b r17_5c r17_5d r17_5e =>
        ((gogeom_geom0_Layout_v2 k r17_5a r17_5b r17_5c r17_5d r17_5e) >>= fun r20 =>
        br (!decide (r20 = a0_0))
          (some (.inl r20))
          (rec1 (iadd .i64 x1 1)))
      | .c6 r17_6a r17_6b r17_6c r17_6d r17_6e =>
        ((gogeom_geom0_Layout_v3 k r17_6a r17_6b r17_6c r17_6d r17_6e) >>= fun r20 =>
        br (!decide (r20 = a0_0))
          (some (.inl r20))
          (rec1 (iadd .i64 x1 1)))
      | .c7 r17_7a r17_7b r17_7c =>
        ((gogeom_GeometryCollection_Layout k r17_7a r17_7b r17_7c) >>= fun r20 =>
        br (!decide (r20 = a0_0))
          (some (.inl r20))
          (rec1 (iadd .i64 x1 1))))
    (some (.inr ()))
def gogeom_GeometryCollection_Push_l1 (a1 : List G53) (a0_0 : Int) : Nat → Int → Option (Int ⊕ Unit)
  | 0, _ => none
  | k + 1, v => gogeom_GeometryCollection_Push_l1s a1 a0_0 k (gogeom_GeometryCollection_Push_l1 a1 a0_0 k) v
def gogeom_GeometryCollection_Push (k : Nat) (a0_0 : Int) (a0_2 : Int) (a1 : List G53) : Option ((Int × (List G53) × Int) ⊕ (Int × Int × Int)) :=
  br (!decide (a0_0 = 0))
    ((gogeom_GeometryCollection_Push_l1 a1 a0_0 k 0) >>= fun y1 => match y1 with
      | (.inl v2) =>
        (some (.inr (a0_0, a0_2, v2)))
      | (.inr v3) =>
        (gogeom_GeometryCollection_Push_j1 k a1 a0_0 a0_2))
    (gogeom_GeometryCollection_Push_j1 k a1 a0_0 a0_2)
def gogeom_GeometryCollection_Push_r (wa0 : Addr) (a0_0 : Int) (a0_2 : Int) (a1 : List G53) (out : (Int × (List G53) × Int) ⊕ (Int × Int × Int)) (w : Gs) : SV := match out with
  | (.inl y) => (Vl .nilIface)
  | (.inr y) => (If 134 (Ag [(Vl (.int .i64 y.2.2)), (Vl (.int .i64 y.1))]))
def gogeom_GeometryCollection_Push_h (wa0 : Addr) (a0_0 : Int) (a0_2 : Int) (a1 : List G53) (out : (Int × (List G53) × Int) ⊕ (Int × Int × Int)) (w : Gs) : List Res := match out with
  | (.inl y) => [⟨.pointer (some wa0), [(Vl (.int .i64 y.1)), (Vl (Vs w)), (Vl (.int .i64 y.2.2))], 114, none⟩, (Rw KG53 53 (Vs w) y.2.1)]
  | (.inr y) => [⟨.pointer (some wa0), [(Vl (.int .i64 y.1)), (Vl (.slice none 0 0)), (Vl (.int .i64 y.2.1))], 114, none⟩]

theorem gogeom_GeometryCollection_Push_sim {k : Nat} {wa0 : Addr} (a0_0 : Int) (a0_2 : Int) (a1 : List G53) {out : (Int × (List G53) × Int) ⊕ (Int × Int × Int)} (hp : gogeom_GeometryCollection_Push k a0_0 a0_2 a1 = some out) : Go.Sx.Fn Try.prog 46 [(Vl (.pointer (some wa0))), (Sl KG53 a1)] [⟨.pointer (some wa0), [(Vl (.int .i64 a0_0)), (Vl (.slice none 0 0)), (Vl (.int .i64 a0_2))], 114, none⟩] (fun w => gogeom_GeometryCollection_Push_r wa0 a0_0 a0_2 a1 out w) (fun w => gogeom_GeometryCollection_Push_h wa0 a0_0 a0_2 a1 out w) := by
  unfold gogeom_GeometryCollection_Push at hp
  refine fn_of Try.func46 rfl Try.ntmps46 rfl fun E hM => ?_
  refine cx_seq' fun K1 hK1 => ?_
  refine cx_region' ?_
  refine sx_rd' (rd_assign' rfl) rfl rfl (wt_none' rfl) ?_
  refine sx_nil' ?_
  show TX E K1 _
  refine tx_k' hK1 ?_
  refine cx_join' (fun (v4 : Unit) => (⟨44, [], [(0, (Vl (.pointer (some wa0)))), (1, (Sl KG53 a1))], [⟨.pointer (some wa0), [(Vl (.int .i64 a0_0)), (Vl (.slice none 0 0)), (Vl (.int .i64 a0_2))], 114, none⟩]⟩ : St)) (fun (v4 : Unit) => gogeom_GeometryCollection_Push_j1 k a1 a0_0 a0_2 = some out) ?_ ?_
  · rintro ⟨⟩ hp
    replace hp : gogeom_GeometryCollection_Push_j1 k a1 a0_0 a0_2 = some out := hp
    unfold gogeom_GeometryCollection_Push_j1 at hp
    refine cx_seq' fun K19 hK19 => ?_
    refine cx_region' ?_
    refine sx_rd' (rd_move' rfl) rfl rfl (wt_none' rfl) ?_
    refine sx_rd' (rd_move' rfl) rfl rfl (wt_none' rfl) ?_
    refine sx_rd' (rd_nilck' rfl) rfl rfl (wt_none' rfl) ?_
    refine sx_rd' (rd_field' (off := 1) rfl Try.underlying114 rfl info112 rfl) rfl rfl (wt_none' rfl) ?_
    refine sx_rd' (rd_load' (i := 0) (o := 1) rfl ⟨rfl, rfl, rfl, rfl⟩ rfl flat112) rfl rfl (wt_none' rfl) ?_
    refine sx_rd' (rd_move' rfl) rfl rfl (wt_none' rfl) ?_
    refine tx_nilrow' KG53 53 ?_
    obtain ⟨r41, hr41, hp⟩ := bind_some hp
    refine sx_ox' (ox_append' (K := KG53) (i := 0) (xs := []) (ys := a1) rfl rfl rfl (sr_sl' rfl Try.underlying112) hr41 Try.underlying112 info53 rfl rfl rfl (H' := [⟨.pointer (some wa0), [(Vl (.int .i64 a0_0)), (Vl (.slice none 0 0)), (Vl (.int .i64 a0_2))], 114, none⟩]) rfl) (wt_none' rfl) fun g41 => ?_
    refine sx_rd' (rd_nilck' rfl) rfl rfl (wt_none' rfl) ?_
    refine sx_rd' (rd_field' (off := 1) rfl Try.underlying114 rfl info112 rfl) rfl rfl (wt_none' rfl) ?_
    refine sx_ox' (ox_store' (i := 1) (o := 1) rfl rfl (lv_vl rfl rfl) ⟨rfl, rfl, rfl, rfl⟩ rfl info112 rfl (H' := [(Rw KG53 53 (Vs g41) r41), ⟨.pointer (some wa0), [(Vl (.int .i64 a0_0)), (Vl (Vs g41)), (Vl (.int .i64 a0_2))], 114, none⟩]) rfl) (wt_none' rfl) fun _ => ?_
    refine sx_nil' ?_
    show TX E K19 _
    refine tx_k' hK19 ?_
    refine cx_seq' fun K20 hK20 => ?_
    refine cx_region' ?_
    refine sx_rd' (rd_assign' rfl) rfl rfl (wt_none' rfl) ?_
    refine sx_nil' ?_
    show TX E K20 _
    refine tx_k' hK20 ?_
    refine cx_retc' ?_
    replace hp := Option.some.inj hp
    subst hp
    refine tx_pick' (L' := [(4, (Vl .nilIface))]) (H' := [⟨.pointer (some wa0), [(Vl (.int .i64 a0_0)), (Vl (Vs g41)), (Vl (.int .i64 a0_2))], 114, none⟩, (Rw KG53 53 (Vs g41) r41)]) [1, 0] (sub_cons rfl sub_nil) (by decide) (pick_cons rfl (pick_cons rfl pick_nil)) ?_
    exact tx_ret1' Try.results46 rfl g41 (rv_tmp' rfl) (List.Sublist.refl _)
  · intro K2 hK2
    refine cx_seq' fun K3 hK3 => ?_
    refine cx_region' ?_
    refine sx_rd' (rd_move' rfl) rfl rfl (wt_none' rfl) ?_
    refine sx_rd' (rd_nilck' rfl) rfl rfl (wt_none' rfl) ?_
    refine sx_rd' (rd_field0' rfl Try.underlying114 rfl info61 rfl) rfl rfl (wt_none' rfl) ?_
    refine sx_rd' (rd_load' (i := 0) (o := 0) rfl ⟨rfl, rfl, rfl, rfl⟩ rfl flat61) rfl rfl (wt_none' rfl) ?_
    refine sx_rd' (rd_bin' rfl rfl eg_int ru_neq) rfl rfl (wt_none' rfl) ?_
    refine sx_nil' ?_
    show TX E K3 _
    refine tx_k' hK3 ?_
    refine cx_cond' rfl (fun h1 => ?_) (fun h1 => ?_)
    · replace hp := (br_t h1).symm.trans hp
      refine cx_seq' fun K4 hK4 => ?_
      refine cx_region' ?_
      refine sx_rd' (rd_move' rfl) rfl rfl (wt_none' rfl) ?_
      refine sx_rd' (rd_len' rfl Try.underlying112) rfl rfl (wt_none' rfl) ?_
      refine sx_rd' (rd_move' rfl) rfl rfl (wt_none' rfl) ?_
      refine sx_nil' ?_
      show TX E K4 _
      refine tx_k' hK4 ?_
      refine cx_block' ?_
      obtain ⟨y1, hy1, hp⟩ := bind_some hp
      refine cx_loopg' (F := gogeom_GeometryCollection_Push_l1 a1 a0_0) (G := fun k R v => gogeom_GeometryCollection_Push_l1s a1 a0_0 k R v) (x := 0) (gh := ()) (fun (v1 : Int) (w1 : Unit) => (⟨44, [], [(0, (Vl (.pointer (some wa0)))), (1, (Sl KG53 a1)), (13, (Sl KG53 a1)), (14, (Vl (.int .i64 (a1.length : Int)))), (15, (Vl (.int .i64 v1)))], [⟨.pointer (some wa0), [(Vl (.int .i64 a0_0)), (Vl (.slice none 0 0)), (Vl (.int .i64 a0_2))], 114, none⟩]⟩ : St)) (fun (y : Int ⊕ Unit) => match y with | (.inl v2) => Zg E Exit.ret (fun (w2 : Unit) => (⟨44, [], [(4, (If 134 (Ag [(Vl (.int .i64 v2)), (Vl (.int .i64 a0_0))])))], [⟨.pointer (some wa0), [(Vl (.int .i64 a0_0)), (Vl (.slice none 0 0)), (Vl (.int .i64 a0_2))], 114, none⟩]⟩ : St)) | (.inr v3) => Zg E (Exit.exit 0) (fun (w3 : Unit) => (⟨44, [], [(0, (Vl (.pointer (some wa0)))), (1, (Sl KG53 a1))], [⟨.pointer (some wa0), [(Vl (.int .i64 a0_0)), (Vl (.slice none 0 0)), (Vl (.int .i64 a0_2))], 114, none⟩]⟩ : St))) (fun _ => rfl) (fun _ _ => rfl) ?_ hy1 (tx_to' rfl [0] (sub_cons rfl (sub_cons rfl (sub_cons rfl (sub_cons rfl (sub_cons rfl sub_nil))))) (by decide) (pick_cons rfl pick_nil)) ?_
      · clear hp hy1
        clear y1
        intro k rec1 KY1 ih1
        rintro x1 ⟨⟩ y1 hp
        replace hp : gogeom_GeometryCollection_Push_l1s a1 a0_0 k rec1 x1 = some y1 := hp
        unfold gogeom_GeometryCollection_Push_l1s at hp
        refine cx_seq' fun K12 hK12 => ?_
        refine cx_region' ?_
        refine sx_rd' (rd_bin' rfl rfl eg_int ru_lss) rfl rfl (wt_none' rfl) ?_
        refine sx_nil' ?_
        show TX E K12 _
        refine tx_k' hK12 ?_
        refine cx_seq' fun K13 hK13 => ?_
        refine cx_cond' rfl (fun h5 => ?_) (fun h5 => ?_)
        · replace hp := (br_t h5).symm.trans hp
          refine cx_skip' ?_
          show TX E K13 _
          refine tx_k' hK13 ?_
          refine cx_seq' fun K14 hK14 => ?_
          refine cx_block' ?_
          refine cx_seq' fun K15 hK15 => ?_
          refine cx_region' ?_
          obtain ⟨r17, hr17, hp⟩ := bind_some hp
          refine sx_rd' (rd_at' (K := KG53) rfl rfl hr17 Try.underlying112 info53) rfl rfl (wt_none' rfl) ?_
          refine sx_rd' (rd_load_pt' rfl rfl flat53) rfl rfl (wt_none' rfl) ?_
          refine sx_rd' (rd_assign' rfl) rfl rfl (wt_none' rfl) ?_
          refine sx_nil' ?_
          show TX E K15 _
          refine tx_k' hK15 ?_
          refine cx_seq' fun K16 hK16 => ?_
          refine cx_region' ?_
          refine sx_rd' (rd_move' rfl) rfl rfl (wt_none' rfl) ?_
          rcases r17 with ⟨r17_0a, r17_0b, r17_0c, r17_0d⟩ | ⟨r17_1a, r17_1b, r17_1c, r17_1d⟩ | ⟨r17_2a, r17_2b, r17_2c, r17_2d⟩ | ⟨r17_3a, r17_3b, r17_3c, r17_3d, r17_3e⟩ | ⟨r17_4a, r17_4b, r17_4c, r17_4d, r17_4e⟩ | ⟨r17_5a, r17_5b, r17_5c, r17_5d, r17_5e⟩ | ⟨r17_6a, r17_6b, r17_6c, r17_6d, r17_6e⟩ | ⟨r17_7a, r17_7b, r17_7c⟩
          · dsimp only at hp
            refine tx_slot' 18 (y := (If 72 (Pt [(Vl (.int .i64 r17_0a)), (Vl (.int .i64 r17_0b)), (Sl Kf r17_0c), (Vl (.int .i64 r17_0d))]))) rfl (imp_eq (SG53_c0 r17_0a r17_0b r17_0c r17_0d)) ?_
            refine tx_slot' 6 (y := (If 72 (Pt [(Vl (.int .i64 r17_0a)), (Vl (.int .i64 r17_0b)), (Sl Kf r17_0c), (Vl (.int .i64 r17_0d))]))) rfl (imp_eq (SG53_c0 r17_0a r17_0b r17_0c r17_0d)) ?_
            refine tx_slot' 19 (y := (If 72 (Pt [(Vl (.int .i64 r17_0a)), (Vl (.int .i64 r17_0b)), (Sl Kf r17_0c), (Vl (.int .i64 r17_0d))]))) rfl (imp_eq (SG53_c0 r17_0a r17_0b r17_0c r17_0d)) ?_
            obtain ⟨r20, hr20, hp⟩ := bind_some hp
            refine sx_ox' (ox_calln' (ent_inv' rfl rfl (inv_pt0 inv72_Layout)) (gogeom_geom0_Layout_sim _ _ _ _ hr20 : Go.Sx.Fn Try.prog 134 [(Pt [(Vl (.int .i64 r17_0a)), (Vl (.int .i64 r17_0b)), (Sl Kf r17_0c), (Vl (.int .i64 r17_0d))])] [] (fun x : Unit => (Vl (.int .i64 r20))) (fun x => [])) (Hn := fun x : Unit => [⟨.pointer (some wa0), [(Vl (.int .i64 a0_0)), (Vl (.slice none 0 0)), (Vl (.int .i64 a0_2))], 114, none⟩]) (fun _ => rfl) rfl rfl) (wt_none' rfl) fun ⟨⟩ => ?_
            refine sx_rd' (rd_assign' rfl) rfl rfl (wt_none' rfl) ?_
            refine sx_nil' ?_
            show TX E K16 _
            refine tx_k' hK16 ?_
            refine cx_seq' fun K17 hK17 => ?_
            refine cx_region' ?_
            refine sx_rd' (rd_move' rfl) rfl rfl (wt_none' rfl) ?_
            refine sx_rd' (rd_move' rfl) rfl rfl (wt_none' rfl) ?_
            refine sx_rd' (rd_nilck' rfl) rfl rfl (wt_none' rfl) ?_
            refine sx_rd' (rd_field0' rfl Try.underlying114 rfl info61 rfl) rfl rfl (wt_none' rfl) ?_
            refine sx_rd' (rd_load' (i := 0) (o := 0) rfl ⟨rfl, rfl, rfl, rfl⟩ rfl flat61) rfl rfl (wt_none' rfl) ?_
            refine sx_rd' (rd_bin' rfl rfl eg_int ru_neq) rfl rfl (wt_none' rfl) ?_
            refine sx_nil' ?_
            show TX E K17 _
            refine tx_k' hK17 ?_
            refine cx_cond' rfl (fun h6 => ?_) (fun h6 => ?_)
            · replace hp := (br_t h6).symm.trans hp
              refine cx_seq' fun K18 hK18 => ?_
              refine cx_region' ?_
              refine sx_rd' (rd_move' rfl) rfl rfl (wt_none' rfl) ?_
              refine sx_rd' (rd_move' rfl) rfl rfl (wt_none' rfl) ?_
              refine sx_rd' (rd_nilck' rfl) rfl rfl (wt_none' rfl) ?_
              refine sx_rd' (rd_field0' rfl Try.underlying114 rfl info61 rfl) rfl rfl (wt_none' rfl) ?_
              refine sx_rd' (rd_load' (i := 0) (o := 0) rfl ⟨rfl, rfl, rfl, rfl⟩ rfl flat61) rfl rfl (wt_none' rfl) ?_
              refine sx_rd' (rd_build' (pls := [(0, 1), (1, 1)]) (qs := [(0, [(Vl (.int .i64 r20))]), (1, [(Vl (.int .i64 a0_0))])]) (r := [(Vl (.int .i64 r20)), (Vl (.int .i64 a0_0))]) ⟨rfl, ⟨_, rfl, (lv_vl rfl rfl)⟩, ⟨rfl, ⟨_, rfl, (lv_vl rfl rfl)⟩, trivial⟩⟩ Try.underlying134 has134 places134 info134 rfl rfl rfl) rfl rfl (wt_none' rfl) ?_
              refine sx_rd' (rd_iface' rfl ⟨_, Try.underlying134, fun _ h => (nomatch h)⟩) rfl rfl (wt_none' rfl) ?_
              refine sx_rd' (rd_assign' rfl) rfl rfl (wt_none' rfl) ?_
              refine sx_nil' ?_
              show TX E K18 _
              refine tx_k' hK18 ?_
              refine cx_retc' ?_
              replace hp := Option.some.inj hp
              subst hp
              show TX E (Zg E Exit.ret _ Exit.ret) _
              exact tx_zend' () rfl [0] (sub_cons rfl sub_nil) (by decide) (pick_cons rfl pick_nil)
            · replace hp := (br_f h6).symm.trans hp
              refine cx_skip' ?_
              show TX E K14 _
              refine tx_k' hK14 ?_
              refine cx_region' ?_
              refine sx_rd' (rd_bin' rfl rfl eg_int ru_add) rfl rfl (wt_none' rfl) ?_
              refine sx_rd' (rd_move' rfl) rfl rfl (wt_none' rfl) ?_
              refine sx_nil' ?_
              show TX E (KY1 _) _
              exact tx_pick' [0] (sub_cons rfl (sub_cons rfl (sub_cons rfl (sub_cons rfl (sub_cons rfl sub_nil))))) (by decide) (pick_cons rfl pick_nil) (ih1 (iadd .i64 x1 1) () _ hp)
          · dsimp only at hp
            refine tx_slot' 18 (y := (If 75 (Pt [(Vl (.int .i64 r17_1a)), (Vl (.int .i64 r17_1b)), (Sl Kf r17_1c), (Vl (.int .i64 r17_1d))]))) rfl (imp_eq (SG53_c1 r17_1a r17_1b r17_1c r17_1d)) ?_
            refine tx_slot' 6 (y := (If 75 (Pt [(Vl (.int .i64 r17_1a)), (Vl (.int .i64 r17_1b)), (Sl Kf r17_1c), (Vl (.int .i64 r17_1d))]))) rfl (imp_eq (SG53_c1 r17_1a r17_1b r17_1c r17_1d)) ?_
            refine tx_slot' 19 (y := (If 75 (Pt [(Vl (.int .i64 r17_1a)), (Vl (.int .i64 r17_1b)), (Sl Kf r17_1c), (Vl (.int .i64 r17_1d))]))) rfl (imp_eq (SG53_c1 r17_1a r17_1b r17_1c r17_1d)) ?_
            obtain ⟨r20, hr20, hp⟩ := bind_some hp
            refine sx_ox' (ox_calln' (ent_inv' rfl rfl (inv_pt0 inv75_Layout)) (gogeom_geom0_Layout_sim _ _ _ _ hr20 : Go.Sx.Fn Try.prog 134 [(Pt [(Vl (.int .i64 r17_1a)), (Vl (.int .i64 r17_1b)), (Sl Kf r17_1c), (Vl (.int .i64 r17_1d))])] [] (fun x : Unit => (Vl (.int .i64 r20))) (fun x => [])) (Hn := fun x : Unit => [⟨.pointer (some wa0), [(Vl (.int .i64 a0_0)), (Vl (.slice none 0 0)), (Vl (.int .i64 a0_2))], 114, none⟩]) (fun _ => rfl) rfl rfl) (wt_none' rfl) fun ⟨⟩ => ?_
            refine sx_rd' (rd_assign' rfl) rfl rfl (wt_none' rfl) ?_
            refine sx_nil' ?_
            show TX E K16 _
            refine tx_k' hK16 ?_
            refine cx_seq' fun K17 hK17 => ?_
            refine cx_region' ?_
            refine sx_rd' (rd_move' rfl) rfl rfl (wt_none' rfl) ?_
            refine sx_rd' (rd_move' rfl) rfl rfl (wt_none' rfl) ?_
            refine sx_rd' (rd_nilck' rfl) rfl rfl (wt_none' rfl) ?_
            refine sx_rd' (rd_field0' rfl Try.underlying114 rfl info61 rfl) rfl rfl (wt_none' rfl) ?_
            refine sx_rd' (rd_load' (i := 0) (o := 0) rfl ⟨rfl, rfl, rfl, rfl⟩ rfl flat61) rfl rfl (wt_none' rfl) ?_
            refine sx_rd' (rd_bin' rfl rfl eg_int ru_neq) rfl rfl (wt_none' rfl) ?_
            refine sx_nil' ?_
            show TX E K17 _
            refine tx_k' hK17 ?_
            refine cx_cond' rfl (fun h6 => ?_) (fun h6 => ?_)
            · replace hp := (br_t h6).symm.trans hp
              refine cx_seq' fun K18 hK18 => ?_
              refine cx_region' ?_
              refine sx_rd' (rd_move' rfl) rfl rfl (wt_none' rfl) ?_
              refine sx_rd' (rd_move' rfl) rfl rfl (wt_none' rfl) ?_
              refine sx_rd' (rd_nilck' rfl) rfl rfl (wt_none' rfl) ?_
              refine sx_rd' (rd_field0' rfl Try.underlying114 rfl info61 rfl) rfl rfl (wt_none' rfl) ?_
              refine sx_rd' (rd_load' (i := 0) (o := 0) rfl ⟨rfl, rfl, rfl, rfl⟩ rfl flat61) rfl rfl (wt_none' rfl) ?_
              refine sx_rd' (rd_build' (pls := [(0, 1), (1, 1)]) (qs := [(0, [(Vl (.int .i64 r20))]), (1, [(Vl (.int .i64 a0_0))])]) (r := [(Vl (.int .i64 r20)), (Vl (.int .i64 a0_0))]) ⟨rfl, ⟨_, rfl, (lv_vl rfl rfl)⟩, ⟨rfl, ⟨_, rfl, (lv_vl rfl rfl)⟩, trivial⟩⟩ Try.underlying134 has134 places134 info134 rfl rfl rfl) rfl rfl (wt_none' rfl) ?_
              refine sx_rd' (rd_iface' rfl ⟨_, Try.underlying134, fun _ h => (nomatch h)⟩) rfl rfl (wt_none' rfl) ?_
              refine sx_rd' (rd_assign' rfl) rfl rfl (wt_none' rfl) ?_
              refine sx_nil' ?_
              show TX E K18 _
              refine tx_k' hK18 ?_
              refine cx_retc' ?_
              replace hp := Option.some.inj hp
              subst hp
              show TX E (Zg E Exit.ret _ Exit.ret) _
              exact tx_zend' () rfl [0] (sub_cons rfl sub_nil) (by decide) (pick_cons rfl pick_nil)
            · replace hp := (br_f h6).symm.trans hp
              refine cx_skip' ?_
              show TX E K14 _
              refine tx_k' hK14 ?_
              refine cx_region' ?_
              refine sx_rd' (rd_bin' rfl rfl eg_int ru_add) rfl rfl (wt_none' rfl) ?_
              refine sx_rd' (rd_move' rfl) rfl rfl (wt_none' rfl) ?_
              refine sx_nil' ?_
              show TX E (KY1 _) _
              exact tx_pick' [0] (sub_cons rfl (sub_cons rfl (sub_cons rfl (sub_cons rfl (sub_cons rfl sub_nil))))) (by decide) (pick_cons rfl pick_nil) (ih1 (iadd .i64 x1 1) () _ hp)
          · dsimp only at hp
            refine tx_slot' 18 (y := (If 69 (Pt [(Vl (.int .i64 r17_2a)), (Vl (.int .i64 r17_2b)), (Sl Kf r17_2c), (Vl (.int .i64 r17_2d))]))) rfl (imp_eq (SG53_c2 r17_2a r17_2b r17_2c r17_2d)) ?_
            refine tx_slot' 6 (y := (If 69 (Pt [(Vl (.int .i64 r17_2a)), (Vl (.int .i64 r17_2b)), (Sl Kf r17_2c), (Vl (.int .i64 r17_2d))]))) rfl (imp_eq (SG53_c2 r17_2a r17_2b r17_2c r17_2d)) ?_
            refine tx_slot' 19 (y := (If 69 (Pt [(Vl (.int .i64 r17_2a)), (Vl (.int .i64 r17_2b)), (Sl Kf r17_2c), (Vl (.int .i64 r17_2d))]))) rfl (imp_eq (SG53_c2 r17_2a r17_2b r17_2c r17_2d)) ?_
            obtain ⟨r20, hr20, hp⟩ := bind_some hp
            refine sx_ox' (ox_calln' (ent_inv' rfl rfl (inv_pt0 inv69_Layout)) (gogeom_geom0_Layout_sim _ _ _ _ hr20 : Go.Sx.Fn Try.prog 134 [(Pt [(Vl (.int .i64 r17_2a)), (Vl (.int .i64 r17_2b)), (Sl Kf r17_2c), (Vl (.int .i64 r17_2d))])] [] (fun x : Unit => (Vl (.int .i64 r20))) (fun x => [])) (Hn := fun x : Unit => [⟨.pointer (some wa0), [(Vl (.int .i64 a0_0)), (Vl (.slice none 0 0)), (Vl (.int .i64 a0_2))], 114, none⟩]) (fun _ => rfl) rfl rfl) (wt_none' rfl) fun ⟨⟩ => ?_
            refine sx_rd' (rd_assign' rfl) rfl rfl (wt_none' rfl) ?_
            refine sx_nil' ?_
            show TX E K16 _
            refine tx_k' hK16 ?_
            refine cx_seq' fun K17 hK17 => ?_
            refine cx_region' ?_
            refine sx_rd' (rd_move' rfl) rfl rfl (wt_none' rfl) ?_
            refine sx_rd' (rd_move' rfl) rfl rfl (wt_none' rfl) ?_
            refine sx_rd' (rd_nilck' rfl) rfl rfl (wt_none' rfl) ?_
            refine sx_rd' (rd_field0' rfl Try.underlying114 rfl info61 rfl) rfl rfl (wt_none' rfl) ?_
            refine sx_rd' (rd_load' (i := 0) (o := 0) rfl ⟨rfl, rfl, rfl, rfl⟩ rfl flat61) rfl rfl (wt_none' rfl) ?_
            refine sx_rd' (rd_bin' rfl rfl eg_int ru_neq) rfl rfl (wt_none' rfl) ?_
            refine sx_nil' ?_
            show TX E K17 _
            refine tx_k' hK17 ?_
            refine cx_cond' rfl (fun h6 => ?_) (fun h6 => ?_)
            · replace hp := (br_t h6).symm.trans hp
              refine cx_seq' fun K18 hK18 => ?_
              refine cx_region' ?_
              refine sx_rd' (rd_move' rfl) rfl rfl (wt_none' rfl) ?_
              refine sx_rd' (rd_move' rfl) rfl rfl (wt_none' rfl) ?_
              refine sx_rd' (rd_nilck' rfl) rfl rfl (wt_none' rfl) ?_
              refine sx_rd' (rd_field0' rfl Try.underlying114 rfl info61 rfl) rfl rfl (wt_none' rfl) ?_
              refine sx_rd' (rd_load' (i := 0) (o := 0) rfl ⟨rfl, rfl, rfl, rfl⟩ rfl flat61) rfl rfl (wt_none' rfl) ?_
              refine sx_rd' (rd_build' (pls := [(0, 1), (1, 1)]) (qs := [(0, [(Vl (.int .i64 r20))]), (1, [(Vl (.int .i64 a0_0))])]) (r := [(Vl (.int .i64 r20)), (Vl (.int .i64 a0_0))]) ⟨rfl, ⟨_, rfl, (lv_vl rfl rfl)⟩, ⟨rfl, ⟨_, rfl, (lv_vl rfl rfl)⟩, trivial⟩⟩ Try.underlying134 has134 places134 info134 rfl rfl rfl) rfl rfl (wt_none' rfl) ?_
              refine sx_rd' (rd_iface' rfl ⟨_, Try.underlying134, fun _ h => (nomatch h)⟩) rfl rfl (wt_none' rfl) ?_
              refine sx_rd' (rd_assign' rfl) rfl rfl (wt_none' rfl) ?_
              refine sx_nil' ?_
              show TX E K18 _
              refine tx_k' hK18 ?_
              refine cx_retc' ?_
              replace hp := Option.some.inj hp
              subst hp
              show TX E (Zg E Exit.ret _ Exit.ret) _
              exact tx_zend' () rfl [0] (sub_cons rfl sub_nil) (by decide) (pick_cons rfl pick_nil)
            · replace hp := (br_f h6).symm.trans hp
              refine cx_skip' ?_
              show TX E K14 _
              refine tx_k' hK14 ?_
              refine cx_region' ?_
              refine sx_rd' (rd_bin' rfl rfl eg_int ru_add) rfl rfl (wt_none' rfl) ?_
              refine sx_rd' (rd_move' rfl) rfl rfl (wt_none' rfl) ?_
              refine sx_nil' ?_
              show TX E (KY1 _) _
              exact tx_pick' [0] (sub_cons rfl (sub_cons rfl (sub_cons rfl (sub_cons rfl (sub_cons rfl sub_nil))))) (by decide) (pick_cons rfl pick_nil) (ih1 (iadd .i64 x1 1) () _ hp)
          · dsimp only at hp
            refine tx_slot' 18 (y := (If 67 (Pt [(Vl (.int .i64 r17_3a)), (Vl (.int .i64 r17_3b)), (Sl Kf r17_3c), (Vl (.int .i64 r17_3d)), (Sl (Ki .i64) r17_3e)]))) rfl (imp_eq (SG53_c3 r17_3a r17_3b r17_3c r17_3d r17_3e)) ?_
            refine tx_slot' 6 (y := (If 67 (Pt [(Vl (.int .i64 r17_3a)), (Vl (.int .i64 r17_3b)), (Sl Kf r17_3c), (Vl (.int .i64 r17_3d)), (Sl (Ki .i64) r17_3e)]))) rfl (imp_eq (SG53_c3 r17_3a r17_3b r17_3c r17_3d r17_3e)) ?_
            refine tx_slot' 19 (y := (If 67 (Pt [(Vl (.int .i64 r17_3a)), (Vl (.int .i64 r17_3b)), (Sl Kf r17_3c), (Vl (.int .i64 r17_3d)), (Sl (Ki .i64) r17_3e)]))) rfl (imp_eq (SG53_c3 r17_3a r17_3b r17_3c r17_3d r17_3e)) ?_
            obtain ⟨r20, hr20, hp⟩ := bind_some hp
            refine sx_ox' (ox_calln' (ent_inv' rfl rfl (inv_pt0 inv67_Layout)) (gogeom_geom0_Layout_v2_sim _ _ _ _ _ hr20 : Go.Sx.Fn Try.prog 134 [(Pt [(Vl (.int .i64 r17_3a)), (Vl (.int .i64 r17_3b)), (Sl Kf r17_3c), (Vl (.int .i64 r17_3d)), (Sl (Ki .i64) r17_3e)])] [] (fun x : Unit => (Vl (.int .i64 r20))) (fun x => [])) (Hn := fun x : Unit => [⟨.pointer (some wa0), [(Vl (.int .i64 a0_0)), (Vl (.slice none 0 0)), (Vl (.int .i64 a0_2))], 114, none⟩]) (fun _ => rfl) rfl rfl) (wt_none' rfl) fun ⟨⟩ => ?_
            refine sx_rd' (rd_assign' rfl) rfl rfl (wt_none' rfl) ?_
            refine sx_nil' ?_
            show TX E K16 _
            refine tx_k' hK16 ?_
            refine cx_seq' fun K17 hK17 => ?_
            refine cx_region' ?_
            refine sx_rd' (rd_move' rfl) rfl rfl (wt_none' rfl) ?_
            refine sx_rd' (rd_move' rfl) rfl rfl (wt_none' rfl) ?_
            refine sx_rd' (rd_nilck' rfl) rfl rfl (wt_none' rfl) ?_
            refine sx_rd' (rd_field0' rfl Try.underlying114 rfl info61 rfl) rfl rfl (wt_none' rfl) ?_
            refine sx_rd' (rd_load' (i := 0) (o := 0) rfl ⟨rfl, rfl, rfl, rfl⟩ rfl flat61) rfl rfl (wt_none' rfl) ?_
            refine sx_rd' (rd_bin' rfl rfl eg_int ru_neq) rfl rfl (wt_none' rfl) ?_
            refine sx_nil' ?_
            show TX E K17 _
            refine tx_k' hK17 ?_
            refine cx_cond' rfl (fun h6 => ?_) (fun h6 => ?_)
            · replace hp := (br_t h6).symm.trans hp
              refine cx_seq' fun K18 hK18 => ?_
              refine cx_region' ?_
              refine sx_rd' (rd_move' rfl) rfl rfl (wt_none' rfl) ?_
              refine sx_rd' (rd_move' rfl) rfl rfl (wt_none' rfl) ?_
              refine sx_rd' (rd_nilck' rfl) rfl rfl (wt_none' rfl) ?_
              refine sx_rd' (rd_field0' rfl Try.underlying114 rfl info61 rfl) rfl rfl (wt_none' rfl) ?_
              refine sx_rd' (rd_load' (i := 0) (o := 0) rfl ⟨rfl, rfl, rfl, rfl⟩ rfl flat61) rfl rfl (wt_none' rfl) ?_
              refine sx_rd' (rd_build' (pls := [(0, 1), (1, 1)]) (qs := [(0, [(Vl (.int .i64 r20))]), (1, [(Vl (.int .i64 a0_0))])]) (r := [(Vl (.int .i64 r20)), (Vl (.int .i64 a0_0))]) ⟨rfl, ⟨_, rfl, (lv_vl rfl rfl)⟩, ⟨rfl, ⟨_, rfl, (lv_vl rfl rfl)⟩, trivial⟩⟩ Try.underlying134 has134 places134 info134 rfl rfl rfl) rfl rfl (wt_none' rfl) ?_
              refine sx_rd' (rd_iface' rfl ⟨_, Try.underlying134, fun _ h => (nomatch h)⟩) rfl rfl (wt_none' rfl) ?_
              refine sx_rd' (rd_assign' rfl) rfl rfl (wt_none' rfl) ?_
              refine sx_nil' ?_
              show TX E K18 _
              refine tx_k' hK18 ?_
              refine cx_retc' ?_
              replace hp := Option.some.inj hp
              subst hp
              show TX E (Zg E Exit.ret _ Exit.ret) _
              exact tx_zend' () rfl [0] (sub_cons rfl sub_nil) (by decide) (pick_cons rfl pick_nil)
            · replace hp := (br_f h6).symm.trans hp
              refine cx_skip' ?_
              show TX E K14 _
              refine tx_k' hK14 ?_
              refine cx_region' ?_
              refine sx_rd' (rd_bin' rfl rfl eg_int ru_add) rfl rfl (wt_none' rfl) ?_
              refine sx_rd' (rd_move' rfl) rfl rfl (wt_none' rfl) ?_
              refine sx_nil' ?_
              show TX E (KY1 _) _
              exact tx_pick' [0] (sub_cons rfl (sub_cons rfl (sub_cons rfl (sub_cons rfl (sub_cons rfl sub_nil))))) (by decide) (pick_cons rfl pick_nil) (ih1 (iadd .i64 x1 1) () _ hp)
          · dsimp only at hp
            refine tx_slot' 18 (y := (If 70 (Pt [(Vl (.int .i64 r17_4a)), (Vl (.int .i64 r17_4b)), (Sl Kf r17_4c), (Vl (.int .i64 r17_4d)), (Sl (Ki .i64) r17_4e)]))) rfl (imp_eq (SG53_c4 r17_4a r17_4b r17_4c r17_4d r17_4e)) ?_
            refine tx_slot' 6 (y := (If 70 (Pt [(Vl (.int .i64 r17_4a)), (Vl (.int .i64 r17_4b)), (Sl Kf r17_4c), (Vl (.int .i64 r17_4d)), (Sl (Ki .i64) r17_4e)]))) rfl (imp_eq (SG53_c4 r17_4a r17_4b r17_4c r17_4d r17_4e)) ?_
            refine tx_slot' 19 (y := (If 70 (Pt [(Vl (.int .i64 r17_4a)), (Vl (.int .i64 r17_4b)), (Sl Kf r17_4c), (Vl (.int .i64 r17_4d)), (Sl (Ki .i64) r17_4e)]))) rfl (imp_eq (SG53_c4 r17_4a r17_4b r17_4c r17_4d r17_4e)) ?_
            obtain ⟨r20, hr20, hp⟩ := bind_some hp
            refine sx_ox' (ox_calln' (ent_inv' rfl rfl (inv_pt0 inv70_Layout)) (gogeom_geom0_Layout_v2_sim _ _ _ _ _ hr20 : Go.Sx.Fn Try.prog 134 [(Pt [(Vl (.int .i64 r17_4a)), (Vl (.int .i64 r17_4b)), (Sl Kf r17_4c), (Vl (.int .i64 r17_4d)), (Sl (Ki .i64) r17_4e)])] [] (fun x : Unit => (Vl (.int .i64 r20))) (fun x => [])) (Hn := fun x : Unit => [⟨.pointer (some wa0), [(Vl (.int .i64 a0_0)), (Vl (.slice none 0 0)), (Vl (.int .i64 a0_2))], 114, none⟩]) (fun _ => rfl) rfl rfl) (wt_none' rfl) fun ⟨⟩ => ?_
            refine sx_rd' (rd_assign' rfl) rfl rfl (wt_none' rfl) ?_
            refine sx_nil' ?_
            show TX E K16 _
            refine tx_k' hK16 ?_
            refine cx_seq' fun K17 hK17 => ?_
            refine cx_region' ?_
            refine sx_rd' (rd_move' rfl) rfl rfl (wt_none' rfl) ?_
            refine sx_rd' (rd_move' rfl) rfl rfl (wt_none' rfl) ?_
            refine sx_rd' (rd_nilck' rfl) rfl rfl (wt_none' rfl) ?_
            refine sx_rd' (rd_field0' rfl Try.underlying114 rfl info61 rfl) rfl rfl (wt_none' rfl) ?_
            refine sx_rd' (rd_load' (i := 0) (o := 0) rfl ⟨rfl, rfl, rfl, rfl⟩ rfl flat61) rfl rfl (wt_none' rfl) ?_
            refine sx_rd' (rd_bin' rfl rfl eg_int ru_neq) rfl rfl (wt_none' rfl) ?_
            refine sx_nil' ?_
            show TX E K17 _
            refine tx_k' hK17 ?_
            refine cx_cond' rfl (fun h6 => ?_) (fun h6 => ?_)
            · replace hp := (br_t h6).symm.trans hp
              refine cx_seq' fun K18 hK18 => ?_
              refine cx_region' ?_
              refine sx_rd' (rd_move' rfl) rfl rfl (wt_none' rfl) ?_
              refine sx_rd' (rd_move' rfl) rfl rfl (wt_none' rfl) ?_
              refine sx_rd' (rd_nilck' rfl) rfl rfl (wt_none' rfl) ?_
              refine sx_rd' (rd_field0' rfl Try.underlying114 rfl info61 rfl) rfl rfl (wt_none' rfl) ?_
              refine sx_rd' (rd_load' (i := 0) (o := 0) rfl ⟨rfl, rfl, rfl, rfl⟩ rfl flat61) rfl rfl (wt_none' rfl) ?_
              refine sx_rd' (rd_build' (pls := [(0, 1), (1, 1)]) (qs := [(0, [(Vl (.int .i64 r20))]), (1, [(Vl (.int .i64 a0_0))])]) (r := [(Vl (.int .i64 r20)), (Vl (.int .i64 a0_0))]) ⟨rfl, ⟨_, rfl, (lv_vl rfl rfl)⟩, ⟨rfl, ⟨_, rfl, (lv_vl rfl rfl)⟩, trivial⟩⟩ Try.underlying134 has134 places134 info134 rfl rfl rfl) rfl rfl (wt_none' rfl) ?_
              refine sx_rd' (rd_iface' rfl ⟨_, Try.underlying134, fun _ h => (nomatch h)⟩) rfl rfl (wt_none' rfl) ?_
              refine sx_rd' (rd_assign' rfl) rfl rfl (wt_none' rfl) ?_
              refine sx_nil' ?_
              show TX E K18 _
              refine tx_k' hK18 ?_
              refine cx_retc' ?_
              replace hp := Option.some.inj hp
              subst hp
              show TX E (Zg E Exit.ret _ Exit.ret) _
              exact tx_zend' () rfl [0] (sub_cons rfl sub_nil) (by decide) (pick_cons rfl pick_nil)
            · replace hp := (br_f h6).symm.trans hp
              refine cx_skip' ?_
              show TX E K14 _
              refine tx_k' hK14 ?_
              refine cx_region' ?_
              refine sx_rd' (rd_bin' rfl rfl eg_int ru_add) rfl rfl (wt_none' rfl) ?_
              refine sx_rd' (rd_move' rfl) rfl rfl (wt_none' rfl) ?_
              refine sx_nil' ?_
              show TX E (KY1 _) _
              exact tx_pick' [0] (sub_cons rfl (sub_cons rfl (sub_cons rfl (sub_cons rfl (sub_cons rfl sub_nil))))) (by decide) (pick_cons rfl pick_nil) (ih1 (iadd .i64 x1 1) () _ hp)
          · dsimp only at hp
            refine tx_slot' 18 (y := (If 73 (Pt [(Vl (.int .i64 r17_5a)), (Vl (.int .i64 r17_5b)), (Sl Kf r17_5c), (Vl (.int .i64 r17_5d)), (Sl (Ki .i64) r17_5e)]))) rfl (imp_eq (SG53_c5 r17_5a r17_5b r17_5c r17_5d r17_5e)) ?_
            refine tx_slot' 6 (y := (If 73 (Pt [(Vl (.int .i64 r17_5a)), (Vl (.int .i64 r17_5b)), (Sl Kf r17_5c), (Vl (.int .i64 r17_5d)), (Sl (Ki .i64) r17_5e)]))) rfl (imp_eq (SG53_c5 r17_5a r17_5b r17_5c r17_5d r17_5e)) ?_
            refine tx_slot' 19 (y := (If 73 (Pt [(Vl (.int .i64 r17_5a)), (Vl (.int .i64 r17_5b)), (Sl Kf r17_5c), (Vl (.int .i64 r17_5d)), (Sl (Ki .i64) r17_5e)]))) rfl (imp_eq (SG53_c5 r17_5a r17_5b r17_5c r17_5d r17_5e)) ?_
            obtain ⟨r20, hr20, hp⟩ := bind_some hp
            refine sx_ox' (ox_calln' (ent_inv' rfl rfl (inv_pt0 inv73_Layout)) (gogeom_geom0_Layout_v2_sim _ _ _ _ _ hr20 : Go.Sx.Fn Try.prog 134 [(Pt [(Vl (.int .i64 r17_5a)), (Vl (.int .i64 r17_5b)), (Sl Kf r17_5c), (Vl (.int .i64 r17_5d)), (Sl (Ki .i64) r17_5e)])] [] (fun x : Unit => (Vl (.int .i64 r20))) (fun x => [])) (Hn := fun x : Unit => [⟨.pointer (some wa0), [(Vl (.int .i64 a0_0)), (Vl (.slice none 0 0)), (Vl (.int .i64 a0_2))], 114, none⟩]) (fun _ => rfl) rfl rfl) (wt_none' rfl) fun ⟨⟩ => ?_
            refine sx_rd' (rd_assign' rfl) rfl rfl (wt_none' rfl) ?_
            refine sx_nil' ?_
            show TX E K16 _
            refine tx_k' hK16 ?_
            refine cx_seq' fun K17 hK17 => ?_
            refine cx_region' ?_
            refine sx_rd' (rd_move' rfl) rfl rfl (wt_none' rfl) ?_
            refine sx_rd' (rd_move' rfl) rfl rfl (wt_none' rfl) ?_
            refine sx_rd' (rd_nilck' rfl) rfl rfl (wt_none' rfl) ?_
            refine sx_rd' (rd_field0' rfl Try.underlying114 rfl info61 rfl) rfl rfl (wt_none' rfl) ?_
            refine sx_rd' (rd_load' (i := 0) (o := 0) rfl ⟨rfl, rfl, rfl, rfl⟩ rfl flat61) rfl rfl (wt_none' rfl) ?_
            refine sx_rd' (rd_bin' rfl rfl eg_int ru_neq) rfl rfl (wt_none' rfl) ?_
            refine sx_nil' ?_
            show TX E K17 _
            refine tx_k' hK17 ?_
            refine cx_cond' rfl (fun h6 => ?_) (fun h6 => ?_)
            · replace hp := (br_t h6).symm.trans hp
              refine cx_seq' fun K18 hK18 => ?_
              refine cx_region' ?_
              refine sx_rd' (rd_move' rfl) rfl rfl (wt_none' rfl) ?_
              refine sx_rd' (rd_move' rfl) rfl rfl (wt_none' rfl) ?_
              refine sx_rd' (rd_nilck' rfl) rfl rfl (wt_none' rfl) ?_
              refine sx_rd' (rd_field0' rfl Try.underlying114 rfl info61 rfl) rfl rfl (wt_none' rfl) ?_
              refine sx_rd' (rd_load' (i := 0) (o := 0) rfl ⟨rfl, rfl, rfl, rfl⟩ rfl flat61) rfl rfl (wt_none' rfl) ?_
              refine sx_rd' (rd_build' (pls := [(0, 1), (1, 1)]) (qs := [(0, [(Vl (.int .i64 r20))]), (1, [(Vl (.int .i64 a0_0))])]) (r := [(Vl (.int .i64 r20)), (Vl (.int .i64 a0_0))]) ⟨rfl, ⟨_, rfl, (lv_vl rfl rfl)⟩, ⟨rfl, ⟨_, rfl, (lv_vl rfl rfl)⟩, trivial⟩⟩ Try.underlying134 has134 places134 info134 rfl rfl rfl) rfl rfl (wt_none' rfl) ?_
              refine sx_rd' (rd_iface' rfl ⟨_, Try.underlying134, fun _ h => (nomatch h)⟩) rfl rfl (wt_none' rfl) ?_
              refine sx_rd' (rd_assign' rfl) rfl rfl (wt_none' rfl) ?_
              refine sx_nil' ?_
              show TX E K18 _
              refine tx_k' hK18 ?_
              refine cx_retc' ?_
              replace hp := Option.some.inj hp
              subst hp
              show TX E (Zg E Exit.ret _ Exit.ret) _
              exact tx_zend' () rfl [0] (sub_cons rfl sub_nil) (by decide) (pick_cons rfl pick_nil)
            · replace hp := (br_f h6).symm.trans hp
              refine cx_skip' ?_
              show TX E K14 _
              refine tx_k' hK14 ?_
              refine cx_region' ?_
              refine sx_rd' (rd_bin' rfl rfl eg_int ru_add) rfl rfl (wt_none' rfl) ?_
              refine sx_rd' (rd_move' rfl) rfl rfl (wt_none' rfl) ?_
              refine sx_nil' ?_
              show TX E (KY1 _) _
              exact tx_pick' [0] (sub_cons rfl (sub_cons rfl (sub_cons rfl (sub_cons rfl (sub_cons rfl sub_nil))))) (by decide) (pick_cons rfl pick_nil) (ih1 (iadd .i64 x1 1) () _ hp)
          · dsimp only at hp
            refine tx_slot' 18 (y := (If 76 (Pt [(Vl (.int .i64 r17_6a)), (Vl (.int .i64 r17_6b)), (Sl Kf r17_6c), (Vl (.int .i64 r17_6d)), (Sl (Kl (Ki .i64)) r17_6e)]))) rfl (imp_eq (SG53_c6 r17_6a r17_6b r17_6c r17_6d r17_6e)) ?_
            refine tx_slot' 6 (y := (If 76 (Pt [(Vl (.int .i64 r17_6a)), (Vl (.int .i64 r17_6b)), (Sl Kf r17_6c), (Vl (.int .i64 r17_6d)), (Sl (Kl (Ki .i64)) r17_6e)]))) rfl (imp_eq (SG53_c6 r17_6a r17_6b r17_6c r17_6d r17_6e)) ?_
            refine tx_slot' 19 (y := (If 76 (Pt [(Vl (.int .i64 r17_6a)), (Vl (.int .i64 r17_6b)), (Sl Kf r17_6c), (Vl (.int .i64 r17_6d)), (Sl (Kl (Ki .i64)) r17_6e)]))) rfl (imp_eq (SG53_c6 r17_6a r17_6b r17_6c r17_6d r17_6e)) ?_
            obtain ⟨r20, hr20, hp⟩ := bind_some hp
            refine sx_ox' (ox_calln' (ent_inv' rfl rfl (inv_pt0 inv76_Layout)) (gogeom_geom0_Layout_v3_sim _ _ _ _ _ hr20 : Go.Sx.Fn Try.prog 134 [(Pt [(Vl (.int .i64 r17_6a)), (Vl (.int .i64 r17_6b)), (Sl Kf r17_6c), (Vl (.int .i64 r17_6d)), (Sl (Kl (Ki .i64)) r17_6e)])] [] (fun x : Unit => (Vl (.int .i64 r20))) (fun x => [])) (Hn := fun x : Unit => [⟨.pointer (some wa0), [(Vl (.int .i64 a0_0)), (Vl (.slice none 0 0)), (Vl (.int .i64 a0_2))], 114, none⟩]) (fun _ => rfl) rfl rfl) (wt_none' rfl) fun ⟨⟩ => ?_
            refine sx_rd' (rd_assign' rfl) rfl rfl (wt_none' rfl) ?_
            refine sx_nil' ?_
            show TX E K16 _
            refine tx_k' hK16 ?_
            refine cx_seq' fun K17 hK17 => ?_
            refine cx_region' ?_
            refine sx_rd' (rd_move' rfl) rfl rfl (wt_none' rfl) ?_
            refine sx_rd' (rd_move' rfl) rfl rfl (wt_none' rfl) ?_
            refine sx_rd' (rd_nilck' rfl) rfl rfl (wt_none' rfl) ?_
            refine sx_rd' (rd_field0' rfl Try.underlying114 rfl info61 rfl) rfl rfl (wt_none' rfl) ?_
            refine sx_rd' (rd_load' (i := 0) (o := 0) rfl ⟨rfl, rfl, rfl, rfl⟩ rfl flat61) rfl rfl (wt_none' rfl) ?_
            refine sx_rd' (rd_bin' rfl rfl eg_int ru_neq) rfl rfl (wt_none' rfl) ?_
            refine sx_nil' ?_
            show TX E K17 _
            refine tx_k' hK17 ?_
            refine cx_cond' rfl (fun h6 => ?_) (fun h6 => ?_)
            · replace hp := (br_t h6).symm.trans hp
              refine cx_seq' fun K18 hK18 => ?_
              refine cx_region' ?_
              refine sx_rd' (rd_move' rfl) rfl rfl (wt_none' rfl) ?_
              refine sx_rd' (rd_move' rfl) rfl rfl (wt_none' rfl) ?_
              refine sx_rd' (rd_nilck' rfl) rfl rfl (wt_none' rfl) ?_
              refine sx_rd' (rd_field0' rfl Try.underlying114 rfl info61 rfl) rfl rfl (wt_none' rfl) ?_
              refine sx_rd' (rd_load' (i := 0) (o := 0) rfl ⟨rfl, rfl, rfl, rfl⟩ rfl flat61) rfl rfl (wt_none' rfl) ?_
              refine sx_rd' (rd_build' (pls := [(0, 1), (1, 1)]) (qs := [(0, [(Vl (.int .i64 r20))]), (1, [(Vl (.int .i64 a0_0))])]) (r := [(Vl (.int .i64 r20)), (Vl (.int .i64 a0_0))]) ⟨rfl, ⟨_, rfl, (lv_vl rfl rfl)⟩, ⟨rfl, ⟨_, rfl, (lv_vl rfl rfl)⟩, trivial⟩⟩ Try.underlying134 has134 places134 info134 rfl rfl rfl) rfl rfl (wt_none' rfl) ?_
              refine sx_rd' (rd_iface' rfl ⟨_, Try.underlying134, fun _ h => (nomatch h)⟩) rfl rfl (wt_none' rfl) ?_
              refine sx_rd' (rd_assign' rfl) rfl rfl (wt_none' rfl) ?_
              refine sx_nil' ?_
              show TX E K18 _
              refine tx_k' hK18 ?_
              refine cx_retc' ?_
              replace hp := Option.some.inj hp
              subst hp
              show TX E (Zg E Exit.ret _ Exit.ret) _
              exact tx_zend' () rfl [0] (sub_cons rfl sub_nil) (by decide) (pick_cons rfl pick_nil)
            · replace hp := (br_f h6).symm.trans hp
              refine cx_skip' ?_
              show TX E K14 _
              refine tx_k' hK14 ?_
              refine cx_region' ?_
              refine sx_rd' (rd_bin' rfl rfl eg_int ru_add) rfl rfl (wt_none' rfl) ?_
              refine sx_rd' (rd_move' rfl) rfl rfl (wt_none' rfl) ?_
              refine sx_nil' ?_
              show TX E (KY1 _) _
              exact tx_pick' [0] (sub_cons rfl (sub_cons rfl (sub_cons rfl (sub_cons rfl (sub_cons rfl sub_nil))))) (by decide) (pick_cons rfl pick_nil) (ih1 (iadd .i64 x1 1) () _ hp)
          · dsimp only at hp
            refine tx_slot' 18 (y := (If 57 (Pt [(Vl (.int .i64 r17_7a)), (Sl KG53 r17_7b), (Vl (.int .i64 r17_7c))]))) rfl (imp_eq (SG53_c7 r17_7a r17_7b r17_7c)) ?_
            refine tx_slot' 6 (y := (If 57 (Pt [(Vl (.int .i64 r17_7a)), (Sl KG53 r17_7b), (Vl (.int .i64 r17_7c))]))) rfl (imp_eq (SG53_c7 r17_7a r17_7b r17_7c)) ?_
            refine tx_slot' 19 (y := (If 57 (Pt [(Vl (.int .i64 r17_7a)), (Sl KG53 r17_7b), (Vl (.int .i64 r17_7c))]))) rfl (imp_eq (SG53_c7 r17_7a r17_7b r17_7c)) ?_
            obtain ⟨r20, hr20, hp⟩ := bind_some hp
            refine sx_ox' (ox_calln' (ent_inv' rfl rfl (inv_any0 inv57_Layout)) (gogeom_GeometryCollection_Layout_sim _ _ _ hr20 : Go.Sx.Fn Try.prog 125 [(Pt [(Vl (.int .i64 r17_7a)), (Sl KG53 r17_7b), (Vl (.int .i64 r17_7c))])] [] (fun x : Unit => (Vl (.int .i64 r20))) (fun x => [])) (Hn := fun x : Unit => [⟨.pointer (some wa0), [(Vl (.int .i64 a0_0)), (Vl (.slice none 0 0)), (Vl (.int .i64 a0_2))], 114, none⟩]) (fun _ => rfl) rfl rfl) (wt_none' rfl) fun ⟨⟩ => ?_
            refine sx_rd' (rd_assign' rfl) rfl rfl (wt_none' rfl) ?_
            refine sx_nil' ?_
            show TX E K16 _
            refine tx_k' hK16 ?_
            refine cx_seq' fun K17 hK17 => ?_
            refine cx_region' ?_
            refine sx_rd' (rd_move' rfl) rfl rfl (wt_none' rfl) ?_
            refine sx_rd' (rd_move' rfl) rfl rfl (wt_none' rfl) ?_
            refine sx_rd' (rd_nilck' rfl) rfl rfl (wt_none' rfl) ?_
            refine sx_rd' (rd_field0' rfl Try.underlying114 rfl info61 rfl) rfl rfl (wt_none' rfl) ?_
            refine sx_rd' (rd_load' (i := 0) (o := 0) rfl ⟨rfl, rfl, rfl, rfl⟩ rfl flat61) rfl rfl (wt_none' rfl) ?_
            refine sx_rd' (rd_bin' rfl rfl eg_int ru_neq) rfl rfl (wt_none' rfl) ?_
            refine sx_nil' ?_
            show TX E K17 _
            refine tx_k' hK17 ?_
            refine cx_cond' rfl (fun h6 => ?_) (fun h6 => ?_)
            · replace hp := (br_t h6).symm.trans hp
              refine cx_seq' fun K18 hK18 => ?_
              refine cx_region' ?_
              refine sx_rd' (rd_move' rfl) rfl rfl (wt_none' rfl) ?_
              refine sx_rd' (rd_move' rfl) rfl rfl (wt_none' rfl) ?_
              refine sx_rd' (rd_nilck' rfl) rfl rfl (wt_none' rfl) ?_
              refine sx_rd' (rd_field0' rfl Try.underlying114 rfl info61 rfl) rfl rfl (wt_none' rfl) ?_
              refine sx_rd' (rd_load' (i := 0) (o := 0) rfl ⟨rfl, rfl, rfl, rfl⟩ rfl flat61) rfl rfl (wt_none' rfl) ?_
              refine sx_rd' (rd_build' (pls := [(0, 1), (1, 1)]) (qs := [(0, [(Vl (.int .i64 r20))]), (1, [(Vl (.int .i64 a0_0))])]) (r := [(Vl (.int .i64 r20)), (Vl (.int .i64 a0_0))]) ⟨rfl, ⟨_, rfl, (lv_vl rfl rfl)⟩, ⟨rfl, ⟨_, rfl, (lv_vl rfl rfl)⟩, trivial⟩⟩ Try.underlying134 has134 places134 info134 rfl rfl rfl) rfl rfl (wt_none' rfl) ?_
              refine sx_rd' (rd_iface' rfl ⟨_, Try.underlying134, fun _ h => (nomatch h)⟩) rfl rfl (wt_none' rfl) ?_
              refine sx_rd' (rd_assign' rfl) rfl rfl (wt_none' rfl) ?_
              refine sx_nil' ?_
              show TX E K18 _
              refine tx_k' hK18 ?_
              refine cx_retc' ?_
              replace hp := Option.some.inj hp
              subst hp
              show TX E (Zg E Exit.ret _ Exit.ret) _
              exact tx_zend' () rfl [0] (sub_cons rfl sub_nil) (by decide) (pick_cons rfl pick_nil)
            · replace hp := (br_f h6).symm.trans hp
              refine cx_skip' ?_
              show TX E K14 _
              refine tx_k' hK14 ?_
              refine cx_region' ?_
              refine sx_rd' (rd_bin' rfl rfl eg_int ru_add) rfl rfl (wt_none' rfl) ?_
              refine sx_rd' (rd_move' rfl) rfl rfl (wt_none' rfl) ?_
              refine sx_nil' ?_
              show TX E (KY1 _) _
              exact tx_pick' [0] (sub_cons rfl (sub_cons rfl (sub_cons rfl (sub_cons rfl (sub_cons rfl sub_nil))))) (by decide) (pick_cons rfl pick_nil) (ih1 (iadd .i64 x1 1) () _ hp)
        · replace hp := (br_f h5).symm.trans hp
          refine cx_exit' ?_
          replace hp := Option.some.inj hp
          subst hp
          show TX E (Zg E (Exit.exit 0) _ (Exit.exit 0)) _
          exact tx_zend' () rfl [0] (sub_cons rfl (sub_cons rfl sub_nil)) (by decide) (pick_cons rfl pick_nil)
      · rcases y1 with v2 | v3
        · dsimp only at hp
          refine zg_out fun w2 => ?_
          replace hp := Option.some.inj hp
          subst hp
          refine tx_pick' (L' := [(4, (If 134 (Ag [(Vl (.int .i64 v2)), (Vl (.int .i64 a0_0))])))]) (H' := [⟨.pointer (some wa0), [(Vl (.int .i64 a0_0)), (Vl (.slice none 0 0)), (Vl (.int .i64 a0_2))], 114, none⟩]) [0] (sub_cons rfl sub_nil) (by decide) (pick_cons rfl pick_nil) ?_
          exact tx_ret1' Try.results46 rfl (none, 0, 0) (rv_tmp' rfl) (List.Sublist.refl _)
        · dsimp only at hp
          refine zg_out fun w3 => ?_
          show TX E K2 _
          exact tx_pick' [0] (sub_cons rfl (sub_cons rfl sub_nil)) (by decide) (pick_cons rfl pick_nil) (hK2 () hp)
    · replace hp := (br_f h1).symm.trans hp
      refine cx_skip' ?_
      show TX E K2 _
      exact tx_pick' [0] (sub_cons rfl (sub_cons rfl sub_nil)) (by decide) (pick_cons rfl pick_nil) (hK2 () hp)

def gogeom_GeometryCollection_MustPush (k : Nat) (a0_0 : Int) (a0_2 : Int) (a1 : List G53) : Option (Int × (List G53) × Int) :=
  (gogeom_GeometryCollection_Push k a0_0 a0_2 a1) >>= fun r8 =>
  match r8 with
    | (.inl y1) =>
      (some (y1.1, y1.2.1, y1.2.2))
    | (.inr y1) =>
      (none)

theorem gogeom_GeometryCollection_MustPush_sim {k : Nat} {wa0 : Addr} (a0_0 : Int) (a0_2 : Int) (a1 : List G53) {out : Int × (List G53) × Int} (hp : gogeom_GeometryCollection_MustPush k a0_0 a0_2 a1 = some out) : Go.Sx.Fn Try.prog 77 [(Vl (.pointer (some wa0))), (Sl KG53 a1)] [⟨.pointer (some wa0), [(Vl (.int .i64 a0_0)), (Vl (.slice none 0 0)), (Vl (.int .i64 a0_2))], 114, none⟩] (fun w : Gs => (Vl (.pointer (some wa0)))) (fun w => [⟨.pointer (some wa0), [(Vl (.int .i64 out.1)), (Vl (Vs w)), (Vl (.int .i64 out.2.2))], 114, none⟩, (Rw KG53 53 (Vs w) out.2.1)]) := by
  unfold gogeom_GeometryCollection_MustPush at hp
  refine fn_of Try.func77 rfl Try.ntmps77 rfl fun E hM => ?_
  refine cx_seq' fun K1 hK1 => ?_
  refine cx_region' ?_
  refine sx_rd' (rd_assign' rfl) rfl rfl (wt_none' rfl) ?_
  refine sx_nil' ?_
  show TX E K1 _
  refine tx_k' hK1 ?_
  refine cx_seq' fun K2 hK2 => ?_
  refine cx_seq' fun K3 hK3 => ?_
  refine cx_region' ?_
  refine sx_rd' (rd_move' rfl) rfl rfl (wt_none' rfl) ?_
  refine sx_rd' (rd_move' rfl) rfl rfl (wt_none' rfl) ?_
  obtain ⟨r8, hr8, hp⟩ := bind_some hp
  rcases r8 with y1 | y1
  · dsimp only at hp
    refine sx_ox' (ox_callg' (ent_fn' Try.func46 isn46 rfl rfl) (gogeom_GeometryCollection_Push_sim _ _ _ hr8 : Go.Sx.Fn Try.prog 46 [(Vl (.pointer (some wa0))), (Sl KG53 a1)] [⟨.pointer (some wa0), [(Vl (.int .i64 a0_0)), (Vl (.slice none 0 0)), (Vl (.int .i64 a0_2))], 114, none⟩] (fun x : Gs => (Vl .nilIface)) (fun x => [⟨.pointer (some wa0), [(Vl (.int .i64 y1.1)), (Vl (Vs x)), (Vl (.int .i64 y1.2.2))], 114, none⟩, (Rw KG53 53 (Vs x) y1.2.1)])) [0] [] (by decide) (pick_cons rfl pick_nil) pick_nil (Hn := fun x : Gs => [⟨.pointer (some wa0), [(Vl (.int .i64 y1.1)), (Vl (Vs x)), (Vl (.int .i64 y1.2.2))], 114, none⟩, (Rw KG53 53 (Vs x) y1.2.1)]) (fun _ => rfl) rfl rfl) (wt_none' rfl) fun g8 => ?_
    refine sx_rd' (rd_assign' rfl) rfl rfl (wt_none' rfl) ?_
    refine sx_nil' ?_
    show TX E K3 _
    refine tx_k' hK3 ?_
    refine cx_seq' fun K4 hK4 => ?_
    refine cx_region' ?_
    refine sx_rd' (rd_move' rfl) rfl rfl (wt_none' rfl) ?_
    refine sx_rd' (rd_binf' rfl rfl (bf_vl (fun _ => by kernel_rfl) nil_neq59_nilif)) rfl rfl (wt_none' rfl) ?_
    refine sx_nil' ?_
    show TX E K4 _
    refine tx_k' hK4 ?_
    refine cx_cond_f' rfl rfl ?_
    refine cx_skip' ?_
    show TX E K2 _
    refine tx_k' hK2 ?_
    refine cx_seq' fun K5 hK5 => ?_
    refine cx_region' ?_
    refine sx_rd' (rd_move' rfl) rfl rfl (wt_none' rfl) ?_
    refine sx_rd' (rd_assign' rfl) rfl rfl (wt_none' rfl) ?_
    refine sx_nil' ?_
    show TX E K5 _
    refine tx_k' hK5 ?_
    refine cx_retc' ?_
    replace hp := Option.some.inj hp
    subst hp
    refine tx_pick' (L' := [(4, (Vl (.pointer (some wa0))))]) (H' := [⟨.pointer (some wa0), [(Vl (.int .i64 y1.1)), (Vl (Vs g8)), (Vl (.int .i64 y1.2.2))], 114, none⟩, (Rw KG53 53 (Vs g8) y1.2.1)]) [0, 1] (sub_cons rfl sub_nil) (by decide) (pick_cons rfl (pick_cons rfl pick_nil)) ?_
    exact tx_ret1' Try.results77 rfl g8 (rv_tmp' rfl) (List.Sublist.refl _)
  · dsimp only at hp
    refine sx_ox' (ox_callg' (ent_fn' Try.func46 isn46 rfl rfl) (gogeom_GeometryCollection_Push_sim _ _ _ hr8 : Go.Sx.Fn Try.prog 46 [(Vl (.pointer (some wa0))), (Sl KG53 a1)] [⟨.pointer (some wa0), [(Vl (.int .i64 a0_0)), (Vl (.slice none 0 0)), (Vl (.int .i64 a0_2))], 114, none⟩] (fun x : Gs => (If 134 (Ag [(Vl (.int .i64 y1.2.2)), (Vl (.int .i64 y1.1))]))) (fun x => [⟨.pointer (some wa0), [(Vl (.int .i64 y1.1)), (Vl (.slice none 0 0)), (Vl (.int .i64 y1.2.1))], 114, none⟩])) [0] [] (by decide) (pick_cons rfl pick_nil) pick_nil (Hn := fun x : Gs => [⟨.pointer (some wa0), [(Vl (.int .i64 y1.1)), (Vl (.slice none 0 0)), (Vl (.int .i64 y1.2.1))], 114, none⟩]) (fun _ => rfl) rfl rfl) (wt_none' rfl) fun g8 => ?_
    refine sx_rd' (rd_assign' rfl) rfl rfl (wt_none' rfl) ?_
    refine sx_nil' ?_
    show TX E K3 _
    refine tx_k' hK3 ?_
    refine cx_seq' fun K4 hK4 => ?_
    refine cx_region' ?_
    refine sx_rd' (rd_move' rfl) rfl rfl (wt_none' rfl) ?_
    refine sx_rd' (rd_binf' rfl rfl (bf_if (fun _ _ => by kernel_rfl) nil_neq59_if134)) rfl rfl (wt_none' rfl) ?_
    refine sx_nil' ?_
    show TX E K4 _
    refine tx_k' hK4 ?_
    refine cx_cond_t' rfl rfl ?_
    refine cx_region' ?_
    refine sx_rd' (rd_move' rfl) rfl rfl (wt_none' rfl) ?_
    cases hp

end Go.Proofs.Ytmagcmeknclljaa
