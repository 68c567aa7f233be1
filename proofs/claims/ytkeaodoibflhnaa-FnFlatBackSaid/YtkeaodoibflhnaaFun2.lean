/-
  Plain functions for the Go functions that this law reaches, and that each call does what its plain function says. Printed by a program of ours.
-/
import Derived.Test.YtkeaodoibflhnaaProg
import Derived.Test.YtkeaodoibflhnaaSxZ
import Derived.Test.YtkeaodoibflhnaaFun1
namespace Go.Proofs.Ytkeaodoibflhnaa
open Go.Sx
set_option linter.unusedVariables false
set_option maxRecDepth 100000

def impl_Inflate2 (k : Nat) (a0 : List Nat) (a1 : List Int) (a2 : Int) : Option ((List (List (List Nat))) × Bool) :=
  (gogeom_DoorInflate2 k a0 a1 a2) >>= fun r12 =>
  (impl_plain2 k r12) >>= fun r13 =>
  some (r13, true)

theorem impl_Inflate2_sim {k : Nat}  (a0 : List Nat) (a1 : List Int) (a2 : Int) {out : (List (List (List Nat))) × Bool} (hp : impl_Inflate2 k a0 a1 a2 = some out) : Go.Sx.Fn Try.prog 40 [(Sl Kf a0), (Sl (Ki .i64) a1), (Vl (.int .i64 a2))] [] (fun w : Unit => (Tu [(Sl (Kl (Kl Kf)) out.1), (Vl (.bool out.2))])) (fun w => []) := by
  unfold impl_Inflate2 at hp
  refine fnD_of Try.func40 rfl Try.ntmps40 rfl fun E hM => ?_
  refine cx_seq' fun K1 hK1 => ?_
  refine cx_region' ?_
  refine sx_ox' (ox_alloc' info43 rfl rfl rfl rfl (l := [(Vl (.slice none 0 0))]) rfl) (wt_none' rfl) fun q6 => ?_
  refine sx_ox' (ox_alloc' info4 rfl rfl rfl rfl (l := [(Vl (.bool false))]) rfl) (wt_none' rfl) fun q7 => ?_
  refine sx_nil' ?_
  show TX E K1 _
  refine tx_k' hK1 ?_
  refine cx_seq' fun K2 hK2 => ?_
  refine cx_region' ?_
  refine sx_rd' (rd_mkfunc' (us := [.pointer (some q6), .pointer (some q7)]) rfl) rfl rfl (wt_none' rfl) ?_
  refine sx_ox' (ox_defer' rfl rfl) (wt_none' rfl) fun _ => ?_
  refine sx_nil' ?_
  show TX E K2 _
  refine tx_k' hK2 ?_
  refine cx_seq' fun K3 hK3 => ?_
  refine cx_region' ?_
  refine sx_rd' (rd_move' rfl) rfl rfl (wt_none' rfl) ?_
  refine sx_rd' (rd_move' rfl) rfl rfl (wt_none' rfl) ?_
  refine sx_rd' (rd_move' rfl) rfl rfl (wt_none' rfl) ?_
  obtain ⟨r12, hr12, hp⟩ := bind_some hp
  refine sx_ox' (ox_calln' (ent_fn' Try.func82 isn82 rfl rfl) (gogeom_DoorInflate2_sim _ _ _ hr12 : Go.Sx.Fn Try.prog 82 [(Sl Kf a0), (Sl (Ki .i64) a1), (Vl (.int .i64 a2))] [] (fun x : Unit => (Sl (Kl (Kl Kf)) r12)) (fun x => [])) (Hn := fun x : Unit => [⟨.pointer (some q7), [(Vl (.bool false))], 4, none⟩, ⟨.pointer (some q6), [(Vl (.slice none 0 0))], 43, none⟩]) (fun _ => rfl) rfl rfl) (wt_none' rfl) fun ⟨⟩ => ?_
  obtain ⟨r13, hr13, hp⟩ := bind_some hp
  refine sx_ox' (ox_calln' (ent_fn' Try.func81 isn81 rfl rfl) (impl_plain2_sim _ hr13 : Go.Sx.Fn Try.prog 81 [(Sl (Kl (Kl Kf)) r12)] [] (fun x : Unit => (Sl (Kl (Kl Kf)) r13)) (fun x => [])) (Hn := fun x : Unit => [⟨.pointer (some q7), [(Vl (.bool false))], 4, none⟩, ⟨.pointer (some q6), [(Vl (.slice none 0 0))], 43, none⟩]) (fun _ => rfl) rfl rfl) (wt_none' rfl) fun ⟨⟩ => ?_
  refine sx_ox' (ox_store' (i := 1) (o := 0) rfl rfl (lv_sl _ _) ⟨rfl, rfl, rfl, rfl⟩ rfl info43 rfl (H' := [⟨.pointer (some q7), [(Vl (.bool false))], 4, none⟩, ⟨.pointer (some q6), [(Sl (Kl (Kl Kf)) r13)], 43, none⟩]) rfl) (wt_none' rfl) fun _ => ?_
  refine sx_ox' (ox_store' (i := 0) (o := 0) rfl rfl (lv_vl rfl rfl) ⟨rfl, rfl, rfl, rfl⟩ rfl info4 rfl (H' := [⟨.pointer (some q7), [(Vl (.bool true))], 4, none⟩, ⟨.pointer (some q6), [(Sl (Kl (Kl Kf)) r13)], 43, none⟩]) rfl) (wt_none' rfl) fun _ => ?_
  refine sx_nil' ?_
  show TX E K3 _
  refine tx_k' hK3 ?_
  refine cx_retc' ?_
  replace hp := Option.some.inj hp
  subst hp
  refine tx_leave' (.inl rfl) rfl idle80 rfl Try.func80 isn80 rfl ?_
  refine tx_pick' (L' := [(6, (Vl (.pointer (some q6)))), (7, (Vl (.pointer (some q7))))]) (H' := [⟨.pointer (some q6), [(Sl (Kl (Kl Kf)) r13)], 43, none⟩, ⟨.pointer (some q7), [(Vl (.bool true))], 4, none⟩]) [1, 0] (sub_cons rfl (sub_cons rfl sub_nil)) (by decide) (pick_cons rfl (pick_cons rfl pick_nil)) ?_
  exact tx_ret2' Try.results40 rfl () (rv_cell' (i := 0) (o := 0) rfl ⟨rfl, rfl, rfl, rfl⟩ rfl flat43) (rv_cell' (i := 1) (o := 0) rfl ⟨rfl, rfl, rfl, rfl⟩ rfl flat4) rfl (List.nil_sublist _)

def gogeom_inflate3_j2 (k : Nat) (rec1 : (Int × (List (List (List (List Nat)))) × Int) → Option ((List (List (List (List Nat)))))) (x7 : Int) (x3 : Int) (x4 : List (List (List (List Nat)))) : Option ((List (List (List (List Nat))))) :=
  rec1 (x3, x4, (iadd .i64 x7 1))
def gogeom_inflate3_l1s (r14 : List (List (List (List Nat)))) (a2 : List (List Int)) (a0 : List Nat) (a3 : Int) (k : Nat) (rec1 : (Int × (List (List (List (List Nat)))) × Int) → Option ((List (List (List (List Nat)))))) (x5 : Int) (x6 : List (List (List (List Nat)))) (x7 : Int) : Option ((List (List (List (List Nat))))) :=
  br (decide (x7 < (r14.length : Int)))
    ((idx a2 x7) >>= fun r22 =>
    (gogeom_inflate2 k a0 x5 r22 a3) >>= fun r30 =>
    (idx x6 x7) >>= fun r31 =>
    br (decide (0 < (r22.length : Int)))
      ((idx r22 (isub .i64 (r22.length : Int) 1)) >>= fun r39 =>
      gogeom_inflate3_j2 k rec1 x7 r39 (x6.set x7.toNat r30))
      (gogeom_inflate3_j2 k rec1 x7 x5 (x6.set x7.toNat r30)))
    (some x6)
def gogeom_inflate3_l1 (r14 : List (List (List (List Nat)))) (a2 : List (List Int)) (a0 : List Nat) (a3 : Int) : Nat → (Int × (List (List (List (List Nat)))) × Int) → Option ((List (List (List (List Nat)))))
  | 0, _ => none
  | k + 1, v => gogeom_inflate3_l1s r14 a2 a0 a3 k (gogeom_inflate3_l1 r14 a2 a0 a3 k) v.1 v.2.1 v.2.2
def gogeom_inflate3 (k : Nat) (a0 : List Nat) (a1 : Int) (a2 : List (List Int)) (a3 : Int) : Option ((List (List (List (List Nat))))) :=
  (mk 24 [] (a2.length : Int) (a2.length : Int)) >>= fun r14 =>
  (gogeom_inflate3_l1 r14 a2 a0 a3 k (a1, r14, 0)) >>= fun v4 =>
  some v4

theorem gogeom_inflate3_sim {k : Nat}  (a0 : List Nat) (a1 : Int) (a2 : List (List Int)) (a3 : Int) {out : (List (List (List (List Nat))))} (hp : gogeom_inflate3 k a0 a1 a2 a3 = some out) : Go.Sx.Fn Try.prog 121 [(Sl Kf a0), (Vl (.int .i64 a1)), (Sl (Kl (Ki .i64)) a2), (Vl (.int .i64 a3))] [] (fun w : Unit => (Sl (Kl (Kl (Kl Kf))) out)) (fun w => []) := by
  unfold gogeom_inflate3 at hp
  refine fn_of Try.func121 rfl Try.ntmps121 rfl fun E hM => ?_
  refine cx_seq' fun K1 hK1 => ?_
  refine cx_region' ?_
  refine sx_rd' (rd_assign' rfl) rfl rfl (wt_none' rfl) ?_
  refine sx_nil' ?_
  show TX E K1 _
  refine tx_k' hK1 ?_
  refine cx_seq' fun K2 hK2 => ?_
  refine cx_region' ?_
  refine sx_rd' (rd_move' rfl) rfl rfl (wt_none' rfl) ?_
  refine sx_rd' (rd_len' rfl Try.underlying24) rfl rfl (wt_none' rfl) ?_
  obtain ⟨r14, hr14, hp⟩ := bind_some hp
  refine sx_ox' (ox_makes' (K := (Kl (Kl (Kl Kf)))) rfl rfl hr14 rfl Try.underlying122 info106 rfl rfl ⟨nil_sl0, trivial⟩ rfl rfl) (wt_none' rfl) fun g14 => ?_
  refine sx_rd' (rd_assign' rfl) rfl rfl (wt_none' rfl) ?_
  refine sx_nil' ?_
  show TX E K2 _
  refine tx_k' hK2 ?_
  refine cx_seq' fun K3 hK3 => ?_
  refine cx_seq' fun K4 hK4 => ?_
  refine cx_region' ?_
  refine sx_rd' (rd_move' rfl) rfl rfl (wt_none' rfl) ?_
  refine sx_rd' (rd_lenr' (i := 0) rfl rfl rfl Try.underlying122) rfl rfl (wt_none' rfl) ?_
  refine sx_rd' (rd_move' rfl) rfl rfl (wt_none' rfl) ?_
  refine sx_nil' ?_
  show TX E K4 _
  refine tx_k' hK4 ?_
  refine cx_block' ?_
  obtain ⟨v4, hy1, hp⟩ := bind_some hp
  refine cx_loopg' (F := gogeom_inflate3_l1 r14 a2 a0 a3) (G := fun k R v => gogeom_inflate3_l1s r14 a2 a0 a3 k R v.1 v.2.1 v.2.2) (x := (a1, r14, 0)) (gh := ()) (fun (v2 : Int × (List (List (List (List Nat)))) × Int) (w2 : Unit) => (⟨43, [], [(0, (Sl Kf a0)), (1, (Vl (.int .i64 v2.1))), (2, (Sl (Kl (Ki .i64)) a2)), (3, (Vl (.int .i64 a3))), (9, (Vl (Vs g14))), (16, (Vl (.int .i64 (r14.length : Int)))), (17, (Vl (.int .i64 v2.2.2)))], [(Rw (Kl (Kl (Kl Kf))) 106 (Vs g14) v2.2.1)]⟩ : St)) (fun (v4 : (List (List (List (List Nat))))) => Zg E (Exit.exit 0) (fun (w4 : Unit) => (⟨43, [], [(9, (Vl (Vs g14)))], [(Rw (Kl (Kl (Kl Kf))) 106 (Vs g14) v4)]⟩ : St))) (fun _ => rfl) (fun _ _ => rfl) ?_ hy1 (tx_to' rfl [0] (sub_cons rfl (sub_cons rfl (sub_cons rfl (sub_cons rfl (sub_cons rfl (sub_cons rfl (sub_cons rfl sub_nil))))))) (by decide) (pick_cons rfl pick_nil)) ?_
  · clear hp hy1
    clear v4
    intro k rec1 KY1 ih1
    rintro ⟨x5, x6, x7⟩ ⟨⟩ y1 hp
    replace hp : gogeom_inflate3_l1s r14 a2 a0 a3 k rec1 x5 x6 x7 = some y1 := hp
    unfold gogeom_inflate3_l1s at hp
    refine cx_seq' fun K12 hK12 => ?_
    refine cx_region' ?_
    refine sx_rd' (rd_bin' rfl rfl eg_int ru_lss) rfl rfl (wt_none' rfl) ?_
    refine sx_nil' ?_
    show TX E K12 _
    refine tx_k' hK12 ?_
    refine cx_seq' fun K13 hK13 => ?_
    refine cx_cond' rfl (fun h4 => ?_) (fun h4 => ?_)
    · replace hp := (br_t h4).symm.trans hp
      refine cx_skip' ?_
      show TX E K13 _
      refine tx_k' hK13 ?_
      refine cx_join' (fun (v3 : Int × (List (List (List (List Nat))))) => (⟨43, [], [(0, (Sl Kf a0)), (1, (Vl (.int .i64 v3.1))), (2, (Sl (Kl (Ki .i64)) a2)), (3, (Vl (.int .i64 a3))), (9, (Vl (Vs g14))), (16, (Vl (.int .i64 (r14.length : Int)))), (17, (Vl (.int .i64 x7)))], [(Rw (Kl (Kl (Kl Kf))) 106 (Vs g14) v3.2)]⟩ : St)) (fun (v3 : Int × (List (List (List (List Nat))))) => gogeom_inflate3_j2 k rec1 x7 v3.1 v3.2 = some y1) ?_ ?_
      · rintro ⟨x3, x4⟩ hp
        replace hp : gogeom_inflate3_j2 k rec1 x7 x3 x4 = some y1 := hp
        unfold gogeom_inflate3_j2 at hp
        refine cx_region' ?_
        refine sx_rd' (rd_bin' rfl rfl eg_int ru_add) rfl rfl (wt_none' rfl) ?_
        refine sx_rd' (rd_move' rfl) rfl rfl (wt_none' rfl) ?_
        refine sx_nil' ?_
        show TX E (KY1 _) _
        exact tx_pick' [0] (sub_cons rfl (sub_cons rfl (sub_cons rfl (sub_cons rfl (sub_cons rfl (sub_cons rfl (sub_cons rfl sub_nil))))))) (by decide) (pick_cons rfl pick_nil) (ih1 (x3, x4, (iadd .i64 x7 1)) () _ hp)
      · intro K14 hK14
        refine cx_block' ?_
        refine cx_seq' fun K15 hK15 => ?_
        refine cx_region' ?_
        refine sx_rd' (rd_move' rfl) rfl rfl (wt_none' rfl) ?_
        refine sx_rd' (rd_assign' rfl) rfl rfl (wt_none' rfl) ?_
        refine sx_nil' ?_
        show TX E K15 _
        refine tx_k' hK15 ?_
        refine cx_seq' fun K16 hK16 => ?_
        refine cx_region' ?_
        refine sx_rd' (rd_move' rfl) rfl rfl (wt_none' rfl) ?_
        refine sx_rd' (rd_move' rfl) rfl rfl (wt_none' rfl) ?_
        obtain ⟨r22, hr22, hp⟩ := bind_some hp
        refine sx_rd' (rd_at' (K := (Kl (Ki .i64))) rfl rfl hr22 Try.underlying24 info23) rfl rfl (wt_none' rfl) ?_
        refine sx_rd' (rd_load_pt' rfl rfl flat23) rfl rfl (wt_none' rfl) ?_
        refine sx_rd' (rd_assign' rfl) rfl rfl (wt_none' rfl) ?_
        refine sx_nil' ?_
        show TX E K16 _
        refine tx_k' hK16 ?_
        refine cx_seq' fun K17 hK17 => ?_
        refine cx_region' ?_
        refine sx_rd' (rd_move' rfl) rfl rfl (wt_none' rfl) ?_
        refine sx_rd' (rd_move' rfl) rfl rfl (wt_none' rfl) ?_
        refine sx_rd' (rd_move' rfl) rfl rfl (wt_none' rfl) ?_
        refine sx_rd' (rd_move' rfl) rfl rfl (wt_none' rfl) ?_
        refine sx_rd' (rd_move' rfl) rfl rfl (wt_none' rfl) ?_
        refine sx_rd' (rd_move' rfl) rfl rfl (wt_none' rfl) ?_
        obtain ⟨r30, hr30, hp⟩ := bind_some hp
        refine sx_ox' (ox_calln' (ent_fn' Try.func120 isn120 rfl rfl) (gogeom_inflate2_sim _ _ _ _ hr30 : Go.Sx.Fn Try.prog 120 [(Sl Kf a0), (Vl (.int .i64 x5)), (Sl (Ki .i64) r22), (Vl (.int .i64 a3))] [] (fun x : Unit => (Sl (Kl (Kl Kf)) r30)) (fun x => [])) (Hn := fun x : Unit => [(Rw (Kl (Kl (Kl Kf))) 106 (Vs g14) x6)]) (fun _ => rfl) rfl rfl) (wt_none' rfl) fun ⟨⟩ => ?_
        obtain ⟨r31, hr31, hp⟩ := bind_some hp
        refine sx_rd' (rd_atr' (m := 0) rfl rfl rfl rfl hr31 Try.underlying122 info106) rfl rfl (wt_none' rfl) ?_
        refine sx_ox' (ox_storer' (m := 0) (i := x7) (j := 0) (x' := r30) rfl rfl (lv_sl _ _) rfl rfl hr31 rfl rfl rfl info106 rfl (H' := [(Rw (Kl (Kl (Kl Kf))) 106 (Vs g14) (x6.set x7.toNat r30))]) rfl) (wt_none' rfl) fun _ => ?_
        refine sx_nil' ?_
        show TX E K17 _
        refine tx_k' hK17 ?_
        refine cx_seq' fun K18 hK18 => ?_
        refine cx_region' ?_
        refine sx_rd' (rd_move' rfl) rfl rfl (wt_none' rfl) ?_
        refine sx_rd' (rd_len' rfl Try.underlying23) rfl rfl (wt_none' rfl) ?_
        refine sx_rd' (rd_bin' rfl rfl eg_int ru_gtr) rfl rfl (wt_none' rfl) ?_
        refine sx_nil' ?_
        show TX E K18 _
        refine tx_k' hK18 ?_
        refine cx_cond' rfl (fun h5 => ?_) (fun h5 => ?_)
        · replace hp := (br_t h5).symm.trans hp
          refine cx_region' ?_
          refine sx_rd' (rd_move' rfl) rfl rfl (wt_none' rfl) ?_
          refine sx_rd' (rd_move' rfl) rfl rfl (wt_none' rfl) ?_
          refine sx_rd' (rd_len' rfl Try.underlying23) rfl rfl (wt_none' rfl) ?_
          refine sx_rd' (rd_bin' rfl rfl eg_int ru_sub) rfl rfl (wt_none' rfl) ?_
          obtain ⟨r39, hr39, hp⟩ := bind_some hp
          refine sx_rd' (rd_at' (K := (Ki .i64)) rfl rfl hr39 Try.underlying23 info3) rfl rfl (wt_none' rfl) ?_
          refine sx_rd' (rd_load_pt' rfl rfl flat3) rfl rfl (wt_none' rfl) ?_
          refine sx_rd' (rd_assign' rfl) rfl rfl (wt_none' rfl) ?_
          refine sx_nil' ?_
          show TX E K14 _
          exact tx_pick' [0] (sub_cons rfl (sub_cons rfl (sub_cons rfl (sub_cons rfl (sub_cons rfl (sub_cons rfl (sub_cons rfl sub_nil))))))) (by decide) (pick_cons rfl pick_nil) (hK14 (r39, (x6.set x7.toNat r30)) hp)
        · replace hp := (br_f h5).symm.trans hp
          refine cx_skip' ?_
          show TX E K14 _
          exact tx_pick' [0] (sub_cons rfl (sub_cons rfl (sub_cons rfl (sub_cons rfl (sub_cons rfl (sub_cons rfl (sub_cons rfl sub_nil))))))) (by decide) (pick_cons rfl pick_nil) (hK14 (x5, (x6.set x7.toNat r30)) hp)
    · replace hp := (br_f h4).symm.trans hp
      refine cx_exit' ?_
      replace hp := Option.some.inj hp
      subst hp
      show TX E (Zg E (Exit.exit 0) _ (Exit.exit 0)) _
      exact tx_zend' () rfl [0] (sub_cons rfl sub_nil) (by decide) (pick_cons rfl pick_nil)
  · refine zg_out fun w4 => ?_
    show TX E K3 _
    refine tx_k' hK3 ?_
    refine cx_seq' fun K19 hK19 => ?_
    refine cx_region' ?_
    refine sx_rd' (rd_move' rfl) rfl rfl (wt_none' rfl) ?_
    refine sx_rd' (rd_assign' rfl) rfl rfl (wt_none' rfl) ?_
    refine sx_nil' ?_
    show TX E K19 _
    refine tx_k' hK19 ?_
    refine cx_retc' ?_
    replace hp := Option.some.inj hp
    subst hp
    refine tx_fz' (frz_row 0 [(9, (Vl (Vs g14)), (Sl (Kl (Kl (Kl Kf))) v4)), (42, (Vl (Vs g14)), (Sl (Kl (Kl (Kl Kf))) v4)), (8, (Vl (Vs g14)), (Sl (Kl (Kl (Kl Kf))) v4))] (K := (Kl (Kl (Kl Kf)))) (xs := v4) (by decide) rfl ⟨⟨rfl, frz_it⟩, ⟨rfl, frz_it⟩, ⟨rfl, frz_it⟩, trivial⟩ (H' := []) frzH_refl) ?_
    refine tx_pick' (L' := [(8, (Sl (Kl (Kl (Kl Kf))) v4))]) (H' := []) [] (sub_cons rfl sub_nil) (by decide) pick_nil ?_
    exact tx_ret1' Try.results121 rfl () (rv_tmp' rfl) (List.Sublist.refl _)

def gogeom_DoorInflate3 (k : Nat) (a0 : List Nat) (a1 : List (List Int)) (a2 : Int) : Option ((List (List (List (List Nat))))) :=
  (gogeom_inflate3 k a0 0 a1 a2) >>= fun r10 =>
  some r10

theorem gogeom_DoorInflate3_sim {k : Nat}  (a0 : List Nat) (a1 : List (List Int)) (a2 : Int) {out : (List (List (List (List Nat))))} (hp : gogeom_DoorInflate3 k a0 a1 a2 = some out) : Go.Sx.Fn Try.prog 85 [(Sl Kf a0), (Sl (Kl (Ki .i64)) a1), (Vl (.int .i64 a2))] [] (fun w : Unit => (Sl (Kl (Kl (Kl Kf))) out)) (fun w => []) := by
  unfold gogeom_DoorInflate3 at hp
  refine fn_of Try.func85 rfl Try.ntmps85 rfl fun E hM => ?_
  refine cx_seq' fun K1 hK1 => ?_
  refine cx_region' ?_
  refine sx_rd' (rd_assign' rfl) rfl rfl (wt_none' rfl) ?_
  refine sx_nil' ?_
  show TX E K1 _
  refine tx_k' hK1 ?_
  refine cx_seq' fun K2 hK2 => ?_
  refine cx_region' ?_
  refine sx_rd' (rd_move' rfl) rfl rfl (wt_none' rfl) ?_
  refine sx_rd' (rd_move' rfl) rfl rfl (wt_none' rfl) ?_
  refine sx_rd' (rd_move' rfl) rfl rfl (wt_none' rfl) ?_
  obtain ⟨r10, hr10, hp⟩ := bind_some hp
  refine sx_ox' (ox_calln' (ent_fn' Try.func121 isn121 rfl rfl) (gogeom_inflate3_sim _ _ _ _ hr10 : Go.Sx.Fn Try.prog 121 [(Sl Kf a0), (Vl (.int .i64 0)), (Sl (Kl (Ki .i64)) a1), (Vl (.int .i64 a2))] [] (fun x : Unit => (Sl (Kl (Kl (Kl Kf))) r10)) (fun x => [])) (Hn := fun x : Unit => []) (fun _ => rfl) rfl rfl) (wt_none' rfl) fun ⟨⟩ => ?_
  refine sx_rd' (rd_assign' rfl) rfl rfl (wt_none' rfl) ?_
  refine sx_nil' ?_
  show TX E K2 _
  refine tx_k' hK2 ?_
  refine cx_retc' ?_
  replace hp := Option.some.inj hp
  subst hp
  refine tx_pick' (L' := [(6, (Sl (Kl (Kl (Kl Kf))) r10))]) (H' := []) [] (sub_cons rfl sub_nil) (by decide) pick_nil ?_
  exact tx_ret1' Try.results85 rfl () (rv_tmp' rfl) (List.Sublist.refl _)

def impl_plain3_l1s (a0 : List (List (List (List Nat)))) (k : Nat) (rec1 : ((List (List (List (List Nat)))) × Int) → Option ((List (List (List (List Nat)))))) (x1 : List (List (List (List Nat)))) (x2 : Int) : Option ((List (List (List (List Nat))))) :=
  br (decide (x2 < (a0.length : Int)))
    ((idx a0 x2) >>= fun r10 =>
    (impl_plain2 k r10) >>= fun r14 =>
    (apd 24 x1 ([r14])) >>= fun r16 =>
    rec1 (r16, (iadd .i64 x2 1)))
    (some x1)
def impl_plain3_l1 (a0 : List (List (List (List Nat)))) : Nat → ((List (List (List (List Nat)))) × Int) → Option ((List (List (List (List Nat)))))
  | 0, _ => none
  | k + 1, v => impl_plain3_l1s a0 k (impl_plain3_l1 a0 k) v.1 v.2
def impl_plain3 (k : Nat) (a0 : List (List (List (List Nat)))) : Option ((List (List (List (List Nat))))) :=
  (impl_plain3_l1 a0 k ([], 0)) >>= fun v2 =>
  some v2

theorem impl_plain3_sim {k : Nat}  (a0 : List (List (List (List Nat)))) {out : (List (List (List (List Nat))))} (hp : impl_plain3 k a0 = some out) : Go.Sx.Fn Try.prog 84 [(Sl (Kl (Kl (Kl Kf))) a0)] [] (fun w : Unit => (Sl (Kl (Kl (Kl Kf))) out)) (fun w => []) := by
  unfold impl_plain3 at hp
  refine fn_of Try.func84 rfl Try.ntmps84 rfl fun E hM => ?_
  refine cx_seq' fun K1 hK1 => ?_
  refine cx_region' ?_
  refine sx_rd' (rd_assign' rfl) rfl rfl (wt_none' rfl) ?_
  refine sx_nil' ?_
  show TX E K1 _
  refine tx_k' hK1 ?_
  refine cx_seq' fun K2 hK2 => ?_
  refine cx_region' ?_
  refine sx_rd' (rd_assign' rfl) rfl rfl (wt_none' rfl) ?_
  refine sx_nil' ?_
  show TX E K2 _
  refine tx_k' hK2 ?_
  refine cx_seq' fun K3 hK3 => ?_
  refine cx_seq' fun K4 hK4 => ?_
  refine cx_region' ?_
  refine sx_rd' (rd_move' rfl) rfl rfl (wt_none' rfl) ?_
  refine sx_rd' (rd_len' rfl Try.underlying122) rfl rfl (wt_none' rfl) ?_
  refine sx_rd' (rd_move' rfl) rfl rfl (wt_none' rfl) ?_
  refine sx_nil' ?_
  show TX E K4 _
  refine tx_k' hK4 ?_
  refine cx_block' ?_
  obtain ⟨v2, hy1, hp⟩ := bind_some hp
  refine tx_nilrow' (Kl (Kl (Kl Kf))) 43 ?_
  refine cx_loopg' (F := impl_plain3_l1 a0) (G := fun k R v => impl_plain3_l1s a0 k R v.1 v.2) (x := ([], 0)) (gh := (none, 0, 0)) (fun (v1 : (List (List (List (List Nat)))) × Int) (w1 : Gs) => (⟨19, [], [(3, (Vl (Vs w1))), (6, (Sl (Kl (Kl (Kl Kf))) a0)), (7, (Vl (.int .i64 (a0.length : Int)))), (8, (Vl (.int .i64 v1.2)))], [(Rw (Kl (Kl (Kl Kf))) 43 (Vs w1) v1.1)]⟩ : St)) (fun (v2 : (List (List (List (List Nat))))) => Zg E (Exit.exit 0) (fun (w2 : Gs) => (⟨19, [], [(3, (Vl (Vs w2)))], [(Rw (Kl (Kl (Kl Kf))) 43 (Vs w2) v2)]⟩ : St))) (fun _ => rfl) (fun _ _ => rfl) ?_ hy1 (tx_to' rfl [0] (sub_cons rfl (sub_cons rfl (sub_cons rfl (sub_cons rfl sub_nil)))) (by decide) (pick_cons rfl pick_nil)) ?_
  · clear hp hy1
    clear v2
    intro k rec1 KY1 ih1
    rintro ⟨x1, x2⟩ g901 y1 hp
    replace hp : impl_plain3_l1s a0 k rec1 x1 x2 = some y1 := hp
    unfold impl_plain3_l1s at hp
    refine cx_seq' fun K9 hK9 => ?_
    refine cx_region' ?_
    refine sx_rd' (rd_bin' rfl rfl eg_int ru_lss) rfl rfl (wt_none' rfl) ?_
    refine sx_nil' ?_
    show TX E K9 _
    refine tx_k' hK9 ?_
    refine cx_seq' fun K10 hK10 => ?_
    refine cx_cond' rfl (fun h3 => ?_) (fun h3 => ?_)
    · replace hp := (br_t h3).symm.trans hp
      refine cx_skip' ?_
      show TX E K10 _
      refine tx_k' hK10 ?_
      refine cx_seq' fun K11 hK11 => ?_
      refine cx_block' ?_
      refine cx_seq' fun K12 hK12 => ?_
      refine cx_region' ?_
      obtain ⟨r10, hr10, hp⟩ := bind_some hp
      refine sx_rd' (rd_at' (K := (Kl (Kl (Kl Kf)))) rfl rfl hr10 Try.underlying122 info106) rfl rfl (wt_none' rfl) ?_
      refine sx_rd' (rd_load_pt' rfl rfl flat106) rfl rfl (wt_none' rfl) ?_
      refine sx_rd' (rd_assign' rfl) rfl rfl (wt_none' rfl) ?_
      refine sx_nil' ?_
      show TX E K12 _
      refine tx_k' hK12 ?_
      refine cx_region' ?_
      refine sx_rd' (rd_move' rfl) rfl rfl (wt_none' rfl) ?_
      refine sx_rd' (rd_move' rfl) rfl rfl (wt_none' rfl) ?_
      obtain ⟨r14, hr14, hp⟩ := bind_some hp
      refine sx_ox' (ox_calln' (ent_fn' Try.func81 isn81 rfl rfl) (impl_plain2_sim _ hr14 : Go.Sx.Fn Try.prog 81 [(Sl (Kl (Kl Kf)) r10)] [] (fun x : Unit => (Sl (Kl (Kl Kf)) r14)) (fun x => [])) (Hn := fun x : Unit => [(Rw (Kl (Kl (Kl Kf))) 43 (Vs g901) x1)]) (fun _ => rfl) rfl rfl) (wt_none' rfl) fun ⟨⟩ => ?_
      refine sx_ox' (ox_rowlit' (K := (Kl (Kl (Kl Kf)))) (xs := [r14]) (qs := [(0, [(Sl (Kl (Kl Kf)) r14)])]) ⟨rfl, ⟨_, rfl, (lv_sl _ _)⟩, trivial⟩ Try.underlying47 info43 rfl rfl rfl rfl rfl (by kernel_rfl) rfl rfl rfl) (wt_none' rfl) fun g15 => ?_
      obtain ⟨r16, hr16, hp⟩ := bind_some hp
      refine sx_ox' (ox_append' (K := (Kl (Kl (Kl Kf)))) (i := 1) (xs := x1) (ys := ([r14])) rfl rfl rfl (sr_row' (j := 0) rfl rfl rfl Try.underlying47) hr16 Try.underlying47 info43 rfl rfl rfl (H' := [(Rw (Kl (Kl (Kl Kf))) 43 (Vs g15) ([r14]))]) rfl) (wt_none' rfl) fun g16 => ?_
      refine sx_rd' (rd_assign' rfl) rfl rfl (wt_none' rfl) ?_
      refine sx_nil' ?_
      show TX E K11 _
      refine tx_k' hK11 ?_
      refine cx_region' ?_
      refine sx_rd' (rd_bin' rfl rfl eg_int ru_add) rfl rfl (wt_none' rfl) ?_
      refine sx_rd' (rd_move' rfl) rfl rfl (wt_none' rfl) ?_
      refine sx_nil' ?_
      show TX E (KY1 _) _
      exact tx_pick' [0] (sub_cons rfl (sub_cons rfl (sub_cons rfl (sub_cons rfl sub_nil)))) (by decide) (pick_cons rfl pick_nil) (ih1 (r16, (iadd .i64 x2 1)) g16 _ hp)
    · replace hp := (br_f h3).symm.trans hp
      refine cx_exit' ?_
      replace hp := Option.some.inj hp
      subst hp
      show TX E (Zg E (Exit.exit 0) _ (Exit.exit 0)) _
      exact tx_zend' g901 rfl [0] (sub_cons rfl sub_nil) (by decide) (pick_cons rfl pick_nil)
  · refine zg_out fun w2 => ?_
    show TX E K3 _
    refine tx_k' hK3 ?_
    refine cx_seq' fun K13 hK13 => ?_
    refine cx_region' ?_
    refine sx_rd' (rd_move' rfl) rfl rfl (wt_none' rfl) ?_
    refine sx_rd' (rd_assign' rfl) rfl rfl (wt_none' rfl) ?_
    refine sx_nil' ?_
    show TX E K13 _
    refine tx_k' hK13 ?_
    refine cx_retc' ?_
    replace hp := Option.some.inj hp
    subst hp
    refine tx_fz' (frz_row 0 [(3, (Vl (Vs w2)), (Sl (Kl (Kl (Kl Kf))) v2)), (18, (Vl (Vs w2)), (Sl (Kl (Kl (Kl Kf))) v2)), (2, (Vl (Vs w2)), (Sl (Kl (Kl (Kl Kf))) v2))] (K := (Kl (Kl (Kl Kf)))) (xs := v2) (by decide) rfl ⟨⟨rfl, frz_it⟩, ⟨rfl, frz_it⟩, ⟨rfl, frz_it⟩, trivial⟩ (H' := []) frzH_refl) ?_
    refine tx_pick' (L' := [(2, (Sl (Kl (Kl (Kl Kf))) v2))]) (H' := []) [] (sub_cons rfl sub_nil) (by decide) pick_nil ?_
    exact tx_ret1' Try.results84 rfl () (rv_tmp' rfl) (List.Sublist.refl _)

def impl_Inflate3 (k : Nat) (a0 : List Nat) (a1 : List (List Int)) (a2 : Int) : Option ((List (List (List (List Nat)))) × Bool) :=
  (gogeom_DoorInflate3 k a0 a1 a2) >>= fun r12 =>
  (impl_plain3 k r12) >>= fun r13 =>
  some (r13, true)

theorem impl_Inflate3_sim {k : Nat}  (a0 : List Nat) (a1 : List (List Int)) (a2 : Int) {out : (List (List (List (List Nat)))) × Bool} (hp : impl_Inflate3 k a0 a1 a2 = some out) : Go.Sx.Fn Try.prog 41 [(Sl Kf a0), (Sl (Kl (Ki .i64)) a1), (Vl (.int .i64 a2))] [] (fun w : Unit => (Tu [(Sl (Kl (Kl (Kl Kf))) out.1), (Vl (.bool out.2))])) (fun w => []) := by
  unfold impl_Inflate3 at hp
  refine fnD_of Try.func41 rfl Try.ntmps41 rfl fun E hM => ?_
  refine cx_seq' fun K1 hK1 => ?_
  refine cx_region' ?_
  refine sx_ox' (ox_alloc' info47 rfl rfl rfl rfl (l := [(Vl (.slice none 0 0))]) rfl) (wt_none' rfl) fun q6 => ?_
  refine sx_ox' (ox_alloc' info4 rfl rfl rfl rfl (l := [(Vl (.bool false))]) rfl) (wt_none' rfl) fun q7 => ?_
  refine sx_nil' ?_
  show TX E K1 _
  refine tx_k' hK1 ?_
  refine cx_seq' fun K2 hK2 => ?_
  refine cx_region' ?_
  refine sx_rd' (rd_mkfunc' (us := [.pointer (some q6), .pointer (some q7)]) rfl) rfl rfl (wt_none' rfl) ?_
  refine sx_ox' (ox_defer' rfl rfl) (wt_none' rfl) fun _ => ?_
  refine sx_nil' ?_
  show TX E K2 _
  refine tx_k' hK2 ?_
  refine cx_seq' fun K3 hK3 => ?_
  refine cx_region' ?_
  refine sx_rd' (rd_move' rfl) rfl rfl (wt_none' rfl) ?_
  refine sx_rd' (rd_move' rfl) rfl rfl (wt_none' rfl) ?_
  refine sx_rd' (rd_move' rfl) rfl rfl (wt_none' rfl) ?_
  obtain ⟨r12, hr12, hp⟩ := bind_some hp
  refine sx_ox' (ox_calln' (ent_fn' Try.func85 isn85 rfl rfl) (gogeom_DoorInflate3_sim _ _ _ hr12 : Go.Sx.Fn Try.prog 85 [(Sl Kf a0), (Sl (Kl (Ki .i64)) a1), (Vl (.int .i64 a2))] [] (fun x : Unit => (Sl (Kl (Kl (Kl Kf))) r12)) (fun x => [])) (Hn := fun x : Unit => [⟨.pointer (some q7), [(Vl (.bool false))], 4, none⟩, ⟨.pointer (some q6), [(Vl (.slice none 0 0))], 47, none⟩]) (fun _ => rfl) rfl rfl) (wt_none' rfl) fun ⟨⟩ => ?_
  obtain ⟨r13, hr13, hp⟩ := bind_some hp
  refine sx_ox' (ox_calln' (ent_fn' Try.func84 isn84 rfl rfl) (impl_plain3_sim _ hr13 : Go.Sx.Fn Try.prog 84 [(Sl (Kl (Kl (Kl Kf))) r12)] [] (fun x : Unit => (Sl (Kl (Kl (Kl Kf))) r13)) (fun x => [])) (Hn := fun x : Unit => [⟨.pointer (some q7), [(Vl (.bool false))], 4, none⟩, ⟨.pointer (some q6), [(Vl (.slice none 0 0))], 47, none⟩]) (fun _ => rfl) rfl rfl) (wt_none' rfl) fun ⟨⟩ => ?_
  refine sx_ox' (ox_store' (i := 1) (o := 0) rfl rfl (lv_sl _ _) ⟨rfl, rfl, rfl, rfl⟩ rfl info47 rfl (H' := [⟨.pointer (some q7), [(Vl (.bool false))], 4, none⟩, ⟨.pointer (some q6), [(Sl (Kl (Kl (Kl Kf))) r13)], 47, none⟩]) rfl) (wt_none' rfl) fun _ => ?_
  refine sx_ox' (ox_store' (i := 0) (o := 0) rfl rfl (lv_vl rfl rfl) ⟨rfl, rfl, rfl, rfl⟩ rfl info4 rfl (H' := [⟨.pointer (some q7), [(Vl (.bool true))], 4, none⟩, ⟨.pointer (some q6), [(Sl (Kl (Kl (Kl Kf))) r13)], 47, none⟩]) rfl) (wt_none' rfl) fun _ => ?_
  refine sx_nil' ?_
  show TX E K3 _
  refine tx_k' hK3 ?_
  refine cx_retc' ?_
  replace hp := Option.some.inj hp
  subst hp
  refine tx_leave' (.inl rfl) rfl idle83 rfl Try.func83 isn83 rfl ?_
  refine tx_pick' (L' := [(6, (Vl (.pointer (some q6)))), (7, (Vl (.pointer (some q7))))]) (H' := [⟨.pointer (some q6), [(Sl (Kl (Kl (Kl Kf))) r13)], 47, none⟩, ⟨.pointer (some q7), [(Vl (.bool true))], 4, none⟩]) [1, 0] (sub_cons rfl (sub_cons rfl sub_nil)) (by decide) (pick_cons rfl (pick_cons rfl pick_nil)) ?_
  exact tx_ret2' Try.results41 rfl () (rv_cell' (i := 0) (o := 0) rfl ⟨rfl, rfl, rfl, rfl⟩ rfl flat47) (rv_cell' (i := 1) (o := 0) rfl ⟨rfl, rfl, rfl, rfl⟩ rfl flat4) rfl (List.nil_sublist _)

def impl_coords1_l1s (a0 : List (List Nat)) (k : Nat) (rec1 : ((List (List Nat)) × Int) → Option ((List (List Nat)))) (x1 : List (List Nat)) (x2 : Int) : Option ((List (List Nat))) :=
  br (decide (x2 < (a0.length : Int)))
    ((idx a0 x2) >>= fun r10 =>
    (impl_floats k r10) >>= fun r14 =>
    (apd 24 x1 ([r14])) >>= fun r16 =>
    rec1 (r16, (iadd .i64 x2 1)))
    (some x1)
def impl_coords1_l1 (a0 : List (List Nat)) : Nat → ((List (List Nat)) × Int) → Option ((List (List Nat)))
  | 0, _ => none
  | k + 1, v => impl_coords1_l1s a0 k (impl_coords1_l1 a0 k) v.1 v.2
def impl_coords1 (k : Nat) (a0 : List (List Nat)) : Option ((List (List Nat))) :=
  (impl_coords1_l1 a0 k ([], 0)) >>= fun v2 =>
  some v2

theorem impl_coords1_sim {k : Nat}  (a0 : List (List Nat)) {out : (List (List Nat))} (hp : impl_coords1 k a0 = some out) : Go.Sx.Fn Try.prog 88 [(Sl (Kl Kf) a0)] [] (fun w : Gs => (Vl (Vs w))) (fun w => [(Rw (Kl Kf) 140 (Vs w) out)]) := by
  unfold impl_coords1 at hp
  refine fn_of Try.func88 rfl Try.ntmps88 rfl fun E hM => ?_
  refine cx_seq' fun K1 hK1 => ?_
  refine cx_region' ?_
  refine sx_rd' (rd_assign' rfl) rfl rfl (wt_none' rfl) ?_
  refine sx_nil' ?_
  show TX E K1 _
  refine tx_k' hK1 ?_
  refine cx_seq' fun K2 hK2 => ?_
  refine cx_region' ?_
  refine sx_rd' (rd_assign' rfl) rfl rfl (wt_none' rfl) ?_
  refine sx_nil' ?_
  show TX E K2 _
  refine tx_k' hK2 ?_
  refine cx_seq' fun K3 hK3 => ?_
  refine cx_seq' fun K4 hK4 => ?_
  refine cx_region' ?_
  refine sx_rd' (rd_move' rfl) rfl rfl (wt_none' rfl) ?_
  refine sx_rd' (rd_len' rfl Try.underlying51) rfl rfl (wt_none' rfl) ?_
  refine sx_rd' (rd_move' rfl) rfl rfl (wt_none' rfl) ?_
  refine sx_nil' ?_
  show TX E K4 _
  refine tx_k' hK4 ?_
  refine cx_block' ?_
  obtain ⟨v2, hy1, hp⟩ := bind_some hp
  refine tx_nilrow' (Kl Kf) 140 ?_
  refine cx_loopg' (F := impl_coords1_l1 a0) (G := fun k R v => impl_coords1_l1s a0 k R v.1 v.2) (x := ([], 0)) (gh := (none, 0, 0)) (fun (v1 : (List (List Nat)) × Int) (w1 : Gs) => (⟨19, [], [(3, (Vl (Vs w1))), (6, (Sl (Kl Kf) a0)), (7, (Vl (.int .i64 (a0.length : Int)))), (8, (Vl (.int .i64 v1.2)))], [(Rw (Kl Kf) 140 (Vs w1) v1.1)]⟩ : St)) (fun (v2 : (List (List Nat))) => Zg E (Exit.exit 0) (fun (w2 : Gs) => (⟨19, [], [(3, (Vl (Vs w2)))], [(Rw (Kl Kf) 140 (Vs w2) v2)]⟩ : St))) (fun _ => rfl) (fun _ _ => rfl) ?_ hy1 (tx_to' rfl [0] (sub_cons rfl (sub_cons rfl (sub_cons rfl (sub_cons rfl sub_nil)))) (by decide) (pick_cons rfl pick_nil)) ?_
  · clear hp hy1
    clear v2
    intro k rec1 KY1 ih1
    rintro ⟨x1, x2⟩ g901 y1 hp
    replace hp : impl_coords1_l1s a0 k rec1 x1 x2 = some y1 := hp
    unfold impl_coords1_l1s at hp
    refine cx_seq' fun K9 hK9 => ?_
    refine cx_region' ?_
    refine sx_rd' (rd_bin' rfl rfl eg_int ru_lss) rfl rfl (wt_none' rfl) ?_
    refine sx_nil' ?_
    show TX E K9 _
    refine tx_k' hK9 ?_
    refine cx_seq' fun K10 hK10 => ?_
    refine cx_cond' rfl (fun h3 => ?_) (fun h3 => ?_)
    · replace hp := (br_t h3).symm.trans hp
      refine cx_skip' ?_
      show TX E K10 _
      refine tx_k' hK10 ?_
      refine cx_seq' fun K11 hK11 => ?_
      refine cx_block' ?_
      refine cx_seq' fun K12 hK12 => ?_
      refine cx_region' ?_
      obtain ⟨r10, hr10, hp⟩ := bind_some hp
      refine sx_rd' (rd_at' (K := (Kl Kf)) rfl rfl hr10 Try.underlying51 info22) rfl rfl (wt_none' rfl) ?_
      refine sx_rd' (rd_load_pt' rfl rfl flat22) rfl rfl (wt_none' rfl) ?_
      refine sx_rd' (rd_assign' rfl) rfl rfl (wt_none' rfl) ?_
      refine sx_nil' ?_
      show TX E K12 _
      refine tx_k' hK12 ?_
      refine cx_region' ?_
      refine sx_rd' (rd_move' rfl) rfl rfl (wt_none' rfl) ?_
      refine sx_rd' (rd_move' rfl) rfl rfl (wt_none' rfl) ?_
      obtain ⟨r14, hr14, hp⟩ := bind_some hp
      refine sx_ox' (ox_calln' (ent_fn' Try.func58 isn58 rfl rfl) (impl_floats_sim _ hr14 : Go.Sx.Fn Try.prog 58 [(Sl Kf r10)] [] (fun x : Unit => (Sl Kf r14)) (fun x => [])) (Hn := fun x : Unit => [(Rw (Kl Kf) 140 (Vs g901) x1)]) (fun _ => rfl) rfl rfl) (wt_none' rfl) fun ⟨⟩ => ?_
      refine sx_ox' (ox_rowlit' (K := (Kl Kf)) (xs := [r14]) (qs := [(0, [(Sl Kf r14)])]) ⟨rfl, ⟨_, rfl, (lv_sl _ _)⟩, trivial⟩ Try.underlying117 info140 rfl rfl rfl rfl rfl (by kernel_rfl) rfl rfl rfl) (wt_none' rfl) fun g15 => ?_
      obtain ⟨r16, hr16, hp⟩ := bind_some hp
      refine sx_ox' (ox_append' (K := (Kl Kf)) (i := 1) (xs := x1) (ys := ([r14])) rfl rfl rfl (sr_row' (j := 0) rfl rfl rfl Try.underlying117) hr16 Try.underlying117 info140 rfl rfl rfl (H' := [(Rw (Kl Kf) 140 (Vs g15) ([r14]))]) rfl) (wt_none' rfl) fun g16 => ?_
      refine sx_rd' (rd_assign' rfl) rfl rfl (wt_none' rfl) ?_
      refine sx_nil' ?_
      show TX E K11 _
      refine tx_k' hK11 ?_
      refine cx_region' ?_
      refine sx_rd' (rd_bin' rfl rfl eg_int ru_add) rfl rfl (wt_none' rfl) ?_
      refine sx_rd' (rd_move' rfl) rfl rfl (wt_none' rfl) ?_
      refine sx_nil' ?_
      show TX E (KY1 _) _
      exact tx_pick' [0] (sub_cons rfl (sub_cons rfl (sub_cons rfl (sub_cons rfl sub_nil)))) (by decide) (pick_cons rfl pick_nil) (ih1 (r16, (iadd .i64 x2 1)) g16 _ hp)
    · replace hp := (br_f h3).symm.trans hp
      refine cx_exit' ?_
      replace hp := Option.some.inj hp
      subst hp
      show TX E (Zg E (Exit.exit 0) _ (Exit.exit 0)) _
      exact tx_zend' g901 rfl [0] (sub_cons rfl sub_nil) (by decide) (pick_cons rfl pick_nil)
  · refine zg_out fun w2 => ?_
    show TX E K3 _
    refine tx_k' hK3 ?_
    refine cx_seq' fun K13 hK13 => ?_
    refine cx_region' ?_
    refine sx_rd' (rd_move' rfl) rfl rfl (wt_none' rfl) ?_
    refine sx_rd' (rd_assign' rfl) rfl rfl (wt_none' rfl) ?_
    refine sx_nil' ?_
    show TX E K13 _
    refine tx_k' hK13 ?_
    refine cx_retc' ?_
    replace hp := Option.some.inj hp
    subst hp
    refine tx_pick' (L' := [(2, (Vl (Vs w2)))]) (H' := [(Rw (Kl Kf) 140 (Vs w2) v2)]) [0] (sub_cons rfl sub_nil) (by decide) (pick_cons rfl pick_nil) ?_
    exact tx_ret1' Try.results88 rfl w2 (rv_tmp' rfl) (List.Sublist.refl _)

def gogeom_deflate0 (k : Nat) (a1 : List Nat) (a2 : Int) : Option ((Int × Int) ⊕ (List Nat)) :=
  br (!decide ((a1.length : Int) = a2))
    (some (.inl ((a1.length : Int), a2)))
    ((apd 8 [] a1) >>= fun r19 =>
    some (.inr r19))
def gogeom_deflate0_r  (a1 : List Nat) (a2 : Int) (out : (Int × Int) ⊕ (List Nat)) (w : Gs) : SV := match out with
  | (.inl y) => (Tu [(Vl (.slice none 0 0)), (If 225 (Ag [(Vl (.int .i64 y.1)), (Vl (.int .i64 y.2))]))])
  | (.inr y) => (Tu [(Vl (Vs w)), (Vl .nilIface)])
def gogeom_deflate0_h  (a1 : List Nat) (a2 : Int) (out : (Int × Int) ⊕ (List Nat)) (w : Gs) : List Res := match out with
  | (.inl y) => []
  | (.inr y) => [(Rw Kf 32 (Vs w) y)]

theorem gogeom_deflate0_sim {k : Nat}  (a1 : List Nat) (a2 : Int) {out : (Int × Int) ⊕ (List Nat)} (hp : gogeom_deflate0 k a1 a2 = some out) : Go.Sx.Fn Try.prog 142 [(Vl (.slice none 0 0)), (Sl Kf a1), (Vl (.int .i64 a2))] [] (fun w => gogeom_deflate0_r a1 a2 out w) (fun w => gogeom_deflate0_h a1 a2 out w) := by
  unfold gogeom_deflate0 at hp
  refine fn_of Try.func142 rfl Try.ntmps142 rfl fun E hM => ?_
  refine cx_seq' fun K1 hK1 => ?_
  refine cx_region' ?_
  refine sx_rd' (rd_assign' rfl) rfl rfl (wt_none' rfl) ?_
  refine sx_rd' (rd_assign' rfl) rfl rfl (wt_none' rfl) ?_
  refine sx_nil' ?_
  show TX E K1 _
  refine tx_k' hK1 ?_
  refine cx_seq' fun K2 hK2 => ?_
  refine cx_seq' fun K3 hK3 => ?_
  refine cx_region' ?_
  refine sx_rd' (rd_move' rfl) rfl rfl (wt_none' rfl) ?_
  refine sx_rd' (rd_len' rfl Try.underlying140) rfl rfl (wt_none' rfl) ?_
  refine sx_rd' (rd_move' rfl) rfl rfl (wt_none' rfl) ?_
  refine sx_rd' (rd_bin' rfl rfl eg_int ru_neq) rfl rfl (wt_none' rfl) ?_
  refine sx_nil' ?_
  show TX E K3 _
  refine tx_k' hK3 ?_
  refine cx_cond' rfl (fun h1 => ?_) (fun h1 => ?_)
  · replace hp := (br_t h1).symm.trans hp
    refine cx_seq' fun K4 hK4 => ?_
    refine cx_region' ?_
    refine sx_rd' (rd_move' rfl) rfl rfl (wt_none' rfl) ?_
    refine sx_rd' (rd_len' rfl Try.underlying140) rfl rfl (wt_none' rfl) ?_
    refine sx_rd' (rd_move' rfl) rfl rfl (wt_none' rfl) ?_
    refine sx_rd' (rd_build' (pls := [(0, 1), (1, 1)]) (qs := [(0, [(Vl (.int .i64 (a1.length : Int)))]), (1, [(Vl (.int .i64 a2))])]) (r := [(Vl (.int .i64 (a1.length : Int))), (Vl (.int .i64 a2))]) ⟨rfl, ⟨_, rfl, (lv_vl rfl rfl)⟩, ⟨rfl, ⟨_, rfl, (lv_vl rfl rfl)⟩, trivial⟩⟩ Try.underlying225 has225 places225 info225 rfl rfl rfl) rfl rfl (wt_none' rfl) ?_
    refine sx_rd' (rd_iface' rfl ⟨_, Try.underlying225, fun _ h => (nomatch h)⟩) rfl rfl (wt_none' rfl) ?_
    refine sx_rd' (rd_assign' rfl) rfl rfl (wt_none' rfl) ?_
    refine sx_rd' (rd_assign' rfl) rfl rfl (wt_none' rfl) ?_
    refine sx_nil' ?_
    show TX E K4 _
    refine tx_k' hK4 ?_
    refine cx_retc' ?_
    replace hp := Option.some.inj hp
    subst hp
    refine tx_pick' (L' := [(6, (Vl (.slice none 0 0))), (7, (If 225 (Ag [(Vl (.int .i64 (a1.length : Int))), (Vl (.int .i64 a2))])))]) (H' := []) [] (sub_cons rfl (sub_cons rfl sub_nil)) (by decide) pick_nil ?_
    exact tx_ret2' Try.results142 rfl (none, 0, 0) (rv_tmp' rfl) (rv_tmp' rfl) rfl (List.Sublist.refl _)
  · replace hp := (br_f h1).symm.trans hp
    refine cx_skip' ?_
    show TX E K2 _
    refine tx_k' hK2 ?_
    refine cx_seq' fun K5 hK5 => ?_
    refine cx_region' ?_
    refine sx_rd' (rd_move' rfl) rfl rfl (wt_none' rfl) ?_
    refine sx_rd' (rd_move' rfl) rfl rfl (wt_none' rfl) ?_
    refine tx_nilrow' Kf 32 ?_
    obtain ⟨r19, hr19, hp⟩ := bind_some hp
    refine sx_ox' (ox_append' (K := Kf) (i := 0) (xs := []) (ys := a1) rfl rfl rfl (sr_sl' rfl Try.underlying140) hr19 Try.underlying22 info32 rfl rfl rfl (H' := []) rfl) (wt_none' rfl) fun g19 => ?_
    refine sx_rd' (rd_assign' rfl) rfl rfl (wt_none' rfl) ?_
    refine sx_nil' ?_
    show TX E K5 _
    refine tx_k' hK5 ?_
    refine cx_seq' fun K6 hK6 => ?_
    refine cx_region' ?_
    refine sx_rd' (rd_move' rfl) rfl rfl (wt_none' rfl) ?_
    refine sx_rd' (rd_assign' rfl) rfl rfl (wt_none' rfl) ?_
    refine sx_rd' (rd_assign' rfl) rfl rfl (wt_none' rfl) ?_
    refine sx_nil' ?_
    show TX E K6 _
    refine tx_k' hK6 ?_
    refine cx_retc' ?_
    replace hp := Option.some.inj hp
    subst hp
    refine tx_pick' (L' := [(6, (Vl (Vs g19))), (7, (Vl .nilIface))]) (H' := [(Rw Kf 32 (Vs g19) r19)]) [0] (sub_cons rfl (sub_cons rfl sub_nil)) (by decide) (pick_cons rfl pick_nil) ?_
    exact tx_ret2' Try.results142 rfl g19 (rv_tmp' rfl) (rv_tmp' rfl) rfl (List.Sublist.refl _)

def gogeom_deflate0_v2 (k : Nat) (a0 : List Nat) (a1 : List Nat) (a2 : Int) : Option ((Int × Int) ⊕ (List Nat)) :=
  br (!decide ((a1.length : Int) = a2))
    (some (.inl ((a1.length : Int), a2)))
    ((apd 8 a0 a1) >>= fun r19 =>
    some (.inr r19))
def gogeom_deflate0_v2_r (wa0 : Gs) (a0 : List Nat) (a1 : List Nat) (a2 : Int) (out : (Int × Int) ⊕ (List Nat)) (w : Gs) : SV := match out with
  | (.inl y) => (Tu [(Vl (.slice none 0 0)), (If 225 (Ag [(Vl (.int .i64 y.1)), (Vl (.int .i64 y.2))]))])
  | (.inr y) => (Tu [(Vl (Vs w)), (Vl .nilIface)])
def gogeom_deflate0_v2_h (wa0 : Gs) (a0 : List Nat) (a1 : List Nat) (a2 : Int) (out : (Int × Int) ⊕ (List Nat)) (w : Gs) : List Res := match out with
  | (.inl y) => []
  | (.inr y) => [(Rw Kf 32 (Vs w) y)]

theorem gogeom_deflate0_v2_sim {k : Nat} {wa0 : Gs} (a0 : List Nat) (a1 : List Nat) (a2 : Int) {out : (Int × Int) ⊕ (List Nat)} (hp : gogeom_deflate0_v2 k a0 a1 a2 = some out) : Go.Sx.Fn Try.prog 142 [(Vl (Vs wa0)), (Sl Kf a1), (Vl (.int .i64 a2))] [(Rw Kf 32 (Vs wa0) a0)] (fun w => gogeom_deflate0_v2_r wa0 a0 a1 a2 out w) (fun w => gogeom_deflate0_v2_h wa0 a0 a1 a2 out w) := by
  unfold gogeom_deflate0_v2 at hp
  refine fn_of Try.func142 rfl Try.ntmps142 rfl fun E hM => ?_
  refine cx_seq' fun K1 hK1 => ?_
  refine cx_region' ?_
  refine sx_rd' (rd_assign' rfl) rfl rfl (wt_none' rfl) ?_
  refine sx_rd' (rd_assign' rfl) rfl rfl (wt_none' rfl) ?_
  refine sx_nil' ?_
  show TX E K1 _
  refine tx_k' hK1 ?_
  refine cx_seq' fun K2 hK2 => ?_
  refine cx_seq' fun K3 hK3 => ?_
  refine cx_region' ?_
  refine sx_rd' (rd_move' rfl) rfl rfl (wt_none' rfl) ?_
  refine sx_rd' (rd_len' rfl Try.underlying140) rfl rfl (wt_none' rfl) ?_
  refine sx_rd' (rd_move' rfl) rfl rfl (wt_none' rfl) ?_
  refine sx_rd' (rd_bin' rfl rfl eg_int ru_neq) rfl rfl (wt_none' rfl) ?_
  refine sx_nil' ?_
  show TX E K3 _
  refine tx_k' hK3 ?_
  refine cx_cond' rfl (fun h1 => ?_) (fun h1 => ?_)
  · replace hp := (br_t h1).symm.trans hp
    refine cx_seq' fun K4 hK4 => ?_
    refine cx_region' ?_
    refine sx_rd' (rd_move' rfl) rfl rfl (wt_none' rfl) ?_
    refine sx_rd' (rd_len' rfl Try.underlying140) rfl rfl (wt_none' rfl) ?_
    refine sx_rd' (rd_move' rfl) rfl rfl (wt_none' rfl) ?_
    refine sx_rd' (rd_build' (pls := [(0, 1), (1, 1)]) (qs := [(0, [(Vl (.int .i64 (a1.length : Int)))]), (1, [(Vl (.int .i64 a2))])]) (r := [(Vl (.int .i64 (a1.length : Int))), (Vl (.int .i64 a2))]) ⟨rfl, ⟨_, rfl, (lv_vl rfl rfl)⟩, ⟨rfl, ⟨_, rfl, (lv_vl rfl rfl)⟩, trivial⟩⟩ Try.underlying225 has225 places225 info225 rfl rfl rfl) rfl rfl (wt_none' rfl) ?_
    refine sx_rd' (rd_iface' rfl ⟨_, Try.underlying225, fun _ h => (nomatch h)⟩) rfl rfl (wt_none' rfl) ?_
    refine sx_rd' (rd_assign' rfl) rfl rfl (wt_none' rfl) ?_
    refine sx_rd' (rd_assign' rfl) rfl rfl (wt_none' rfl) ?_
    refine sx_nil' ?_
    show TX E K4 _
    refine tx_k' hK4 ?_
    refine cx_retc' ?_
    replace hp := Option.some.inj hp
    subst hp
    refine tx_pick' (L' := [(6, (Vl (.slice none 0 0))), (7, (If 225 (Ag [(Vl (.int .i64 (a1.length : Int))), (Vl (.int .i64 a2))])))]) (H' := []) [] (sub_cons rfl (sub_cons rfl sub_nil)) (by decide) pick_nil ?_
    exact tx_ret2' Try.results142 rfl (none, 0, 0) (rv_tmp' rfl) (rv_tmp' rfl) rfl (List.Sublist.refl _)
  · replace hp := (br_f h1).symm.trans hp
    refine cx_skip' ?_
    show TX E K2 _
    refine tx_k' hK2 ?_
    refine cx_seq' fun K5 hK5 => ?_
    refine cx_region' ?_
    refine sx_rd' (rd_move' rfl) rfl rfl (wt_none' rfl) ?_
    refine sx_rd' (rd_move' rfl) rfl rfl (wt_none' rfl) ?_
    obtain ⟨r19, hr19, hp⟩ := bind_some hp
    refine sx_ox' (ox_append' (K := Kf) (i := 0) (xs := a0) (ys := a1) rfl rfl rfl (sr_sl' rfl Try.underlying140) hr19 Try.underlying22 info32 rfl rfl rfl (H' := []) rfl) (wt_none' rfl) fun g19 => ?_
    refine sx_rd' (rd_assign' rfl) rfl rfl (wt_none' rfl) ?_
    refine sx_nil' ?_
    show TX E K5 _
    refine tx_k' hK5 ?_
    refine cx_seq' fun K6 hK6 => ?_
    refine cx_region' ?_
    refine sx_rd' (rd_move' rfl) rfl rfl (wt_none' rfl) ?_
    refine sx_rd' (rd_assign' rfl) rfl rfl (wt_none' rfl) ?_
    refine sx_rd' (rd_assign' rfl) rfl rfl (wt_none' rfl) ?_
    refine sx_nil' ?_
    show TX E K6 _
    refine tx_k' hK6 ?_
    refine cx_retc' ?_
    replace hp := Option.some.inj hp
    subst hp
    refine tx_pick' (L' := [(6, (Vl (Vs g19))), (7, (Vl .nilIface))]) (H' := [(Rw Kf 32 (Vs g19) r19)]) [0] (sub_cons rfl (sub_cons rfl sub_nil)) (by decide) (pick_cons rfl pick_nil) ?_
    exact tx_ret2' Try.results142 rfl g19 (rv_tmp' rfl) (rv_tmp' rfl) rfl (List.Sublist.refl _)

def gogeom_deflate1_l1s (a1 : List (List Nat)) (a2 : Int) (k : Nat) (rec1 : ((List Nat) × Int) → Option ((Int × Int) ⊕ (List Nat))) (x1 : List Nat) (x2 : Int) : Option ((Int × Int) ⊕ (List Nat)) :=
  br (decide (x2 < (a1.length : Int)))
    ((idx a1 x2) >>= fun r15 =>
    (gogeom_deflate0_v2 k x1 r15 a2) >>= fun r21 =>
    match r21 with
      | (.inl y3) =>
        (some (.inl (y3.1, y3.2)))
      | (.inr y3) =>
        (rec1 (y3, (iadd .i64 x2 1))))
    (some (.inr x1))
def gogeom_deflate1_l1 (a1 : List (List Nat)) (a2 : Int) : Nat → ((List Nat) × Int) → Option ((Int × Int) ⊕ (List Nat))
  | 0, _ => none
  | k + 1, v => gogeom_deflate1_l1s a1 a2 k (gogeom_deflate1_l1 a1 a2 k) v.1 v.2
def gogeom_deflate1 (k : Nat) (a1 : List (List Nat)) (a2 : Int) : Option (((List (List Nat)) × Int × Int) ⊕ ((List (List Nat)) × (List Nat))) :=
  (gogeom_deflate1_l1 a1 a2 k ([], 0)) >>= fun y5 => match y5 with
    | (.inl v2) =>
      (some (.inl (a1, v2.1, v2.2)))
    | (.inr v3) =>
      (some (.inr (a1, v3)))
def gogeom_deflate1_r (wa1 : Gs) (a1 : List (List Nat)) (a2 : Int) (out : ((List (List Nat)) × Int × Int) ⊕ ((List (List Nat)) × (List Nat))) (w : Gs) : SV := match out with
  | (.inl y) => (Tu [(Vl (.slice none 0 0)), (If 225 (Ag [(Vl (.int .i64 y.2.1)), (Vl (.int .i64 y.2.2))]))])
  | (.inr y) => (Tu [(Vl (Vs w)), (Vl .nilIface)])
def gogeom_deflate1_h (wa1 : Gs) (a1 : List (List Nat)) (a2 : Int) (out : ((List (List Nat)) × Int × Int) ⊕ ((List (List Nat)) × (List Nat))) (w : Gs) : List Res := match out with
  | (.inl y) => [(Rw (Kl Kf) 140 (Vs wa1) y.1)]
  | (.inr y) => [(Rw (Kl Kf) 140 (Vs wa1) y.1), (Rw Kf 32 (Vs w) y.2)]

theorem gogeom_deflate1_sim {k : Nat} {wa1 : Gs} (a1 : List (List Nat)) (a2 : Int) {out : ((List (List Nat)) × Int × Int) ⊕ ((List (List Nat)) × (List Nat))} (hp : gogeom_deflate1 k a1 a2 = some out) : Go.Sx.Fn Try.prog 122 [(Vl (.slice none 0 0)), (Vl (Vs wa1)), (Vl (.int .i64 a2))] [(Rw (Kl Kf) 140 (Vs wa1) a1)] (fun w => gogeom_deflate1_r wa1 a1 a2 out w) (fun w => gogeom_deflate1_h wa1 a1 a2 out w) := by
  unfold gogeom_deflate1 at hp
  refine fn_of Try.func122 rfl Try.ntmps122 rfl fun E hM => ?_
  refine cx_seq' fun K1 hK1 => ?_
  refine cx_region' ?_
  refine sx_rd' (rd_assign' rfl) rfl rfl (wt_none' rfl) ?_
  refine sx_rd' (rd_assign' rfl) rfl rfl (wt_none' rfl) ?_
  refine sx_nil' ?_
  show TX E K1 _
  refine tx_k' hK1 ?_
  refine cx_seq' fun K2 hK2 => ?_
  refine cx_seq' fun K3 hK3 => ?_
  refine cx_region' ?_
  refine sx_rd' (rd_move' rfl) rfl rfl (wt_none' rfl) ?_
  refine sx_rd' (rd_lenr' (i := 0) rfl rfl rfl Try.underlying117) rfl rfl (wt_none' rfl) ?_
  refine sx_rd' (rd_move' rfl) rfl rfl (wt_none' rfl) ?_
  refine sx_nil' ?_
  show TX E K3 _
  refine tx_k' hK3 ?_
  refine cx_block' ?_
  obtain ⟨y5, hy1, hp⟩ := bind_some hp
  refine tx_nilrow' Kf 32 ?_
  refine cx_loopg' (F := gogeom_deflate1_l1 a1 a2) (G := fun k R v => gogeom_deflate1_l1s a1 a2 k R v.1 v.2) (x := ([], 0)) (gh := (none, 0, 0)) (fun (v1 : (List Nat) × Int) (w1 : Gs) => (⟨29, [], [(0, (Vl (Vs w1))), (2, (Vl (.int .i64 a2))), (11, (Vl (Vs wa1))), (12, (Vl (.int .i64 (a1.length : Int)))), (13, (Vl (.int .i64 v1.2)))], [(Rw Kf 32 (Vs w1) v1.1), (Rw (Kl Kf) 140 (Vs wa1) a1)]⟩ : St)) (fun (y : (Int × Int) ⊕ (List Nat)) => match y with | (.inl v2) => Zg E Exit.ret (fun (w2 : Unit) => (⟨29, [], [(6, (Vl (.slice none 0 0))), (7, (If 225 (Ag [(Vl (.int .i64 v2.1)), (Vl (.int .i64 v2.2))])))], [(Rw (Kl Kf) 140 (Vs wa1) a1)]⟩ : St)) | (.inr v3) => Zg E (Exit.exit 0) (fun (w3 : Gs) => (⟨29, [], [(0, (Vl (Vs w3)))], [(Rw Kf 32 (Vs w3) v3), (Rw (Kl Kf) 140 (Vs wa1) a1)]⟩ : St))) (fun _ => rfl) (fun _ _ => rfl) ?_ hy1 (tx_to' rfl [0, 1] (sub_cons rfl (sub_cons rfl (sub_cons rfl (sub_cons rfl (sub_cons rfl sub_nil))))) (by decide) (pick_cons rfl (pick_cons rfl pick_nil))) ?_
  · clear hp hy1
    clear y5
    intro k rec1 KY1 ih1
    rintro ⟨x1, x2⟩ g901 y5 hp
    replace hp : gogeom_deflate1_l1s a1 a2 k rec1 x1 x2 = some y5 := hp
    unfold gogeom_deflate1_l1s at hp
    refine cx_seq' fun K12 hK12 => ?_
    refine cx_region' ?_
    refine sx_rd' (rd_bin' rfl rfl eg_int ru_lss) rfl rfl (wt_none' rfl) ?_
    refine sx_nil' ?_
    show TX E K12 _
    refine tx_k' hK12 ?_
    refine cx_seq' fun K13 hK13 => ?_
    refine cx_cond' rfl (fun h3 => ?_) (fun h3 => ?_)
    · replace hp := (br_t h3).symm.trans hp
      refine cx_skip' ?_
      show TX E K13 _
      refine tx_k' hK13 ?_
      refine cx_seq' fun K14 hK14 => ?_
      refine cx_block' ?_
      refine cx_seq' fun K15 hK15 => ?_
      refine cx_region' ?_
      obtain ⟨r15, hr15, hp⟩ := bind_some hp
      refine sx_rd' (rd_atr' (m := 1) rfl rfl rfl rfl hr15 Try.underlying117 info140) rfl rfl (wt_none' rfl) ?_
      refine sx_rd' (rd_loadr' rfl (m := 1) (i := x2) (j := 0) rfl rfl hr15 rfl rfl flat140) rfl rfl (wt_none' rfl) ?_
      refine sx_rd' (rd_assign' rfl) rfl rfl (wt_none' rfl) ?_
      refine sx_nil' ?_
      show TX E K15 _
      refine tx_k' hK15 ?_
      refine cx_seq' fun K16 hK16 => ?_
      refine cx_region' ?_
      refine sx_rd' (rd_assign' rfl) rfl rfl (wt_none' rfl) ?_
      refine sx_nil' ?_
      show TX E K16 _
      refine tx_k' hK16 ?_
      refine cx_seq' fun K17 hK17 => ?_
      refine cx_region' ?_
      refine sx_rd' (rd_move' rfl) rfl rfl (wt_none' rfl) ?_
      refine sx_rd' (rd_move' rfl) rfl rfl (wt_none' rfl) ?_
      refine sx_rd' (rd_move' rfl) rfl rfl (wt_none' rfl) ?_
      obtain ⟨r21, hr21, hp⟩ := bind_some hp
      rcases r21 with y3 | y3
      · dsimp only at hp
        refine sx_ox' (ox_callg' (ent_fn' Try.func142 isn142 rfl rfl) (gogeom_deflate0_v2_sim _ _ _ hr21 : Go.Sx.Fn Try.prog 142 [(Vl (Vs g901)), (Sl Kf r15), (Vl (.int .i64 a2))] [(Rw Kf 32 (Vs g901) x1)] (fun x : Gs => (Tu [(Vl (.slice none 0 0)), (If 225 (Ag [(Vl (.int .i64 y3.1)), (Vl (.int .i64 y3.2))]))])) (fun x => [])) [0] [1] (by decide) (pick_cons rfl pick_nil) (pick_cons rfl pick_nil) (Hn := fun x : Gs => [(Rw (Kl Kf) 140 (Vs wa1) a1)]) (fun _ => rfl) rfl rfl) (wt_none' rfl) fun g21 => ?_
        refine sx_rd' (rd_move' rfl) rfl rfl (wt_none' rfl) ?_
        refine sx_rd' (rd_extract' rfl rfl) rfl rfl (wt_none' rfl) ?_
        refine sx_rd' (rd_extract' rfl rfl) rfl rfl (wt_none' rfl) ?_
        refine sx_rd' (rd_assign' rfl) rfl rfl (wt_none' rfl) ?_
        refine sx_rd' (rd_assign' rfl) rfl rfl (wt_none' rfl) ?_
        refine sx_nil' ?_
        show TX E K17 _
        refine tx_k' hK17 ?_
        refine cx_seq' fun K18 hK18 => ?_
        refine cx_region' ?_
        refine sx_rd' (rd_move' rfl) rfl rfl (wt_none' rfl) ?_
        refine sx_rd' (rd_binf' rfl rfl (bf_if (fun _ _ => by kernel_rfl) nil_neq103_if225)) rfl rfl (wt_none' rfl) ?_
        refine sx_nil' ?_
        show TX E K18 _
        refine tx_k' hK18 ?_
        refine cx_cond_t' rfl rfl ?_
        refine cx_seq' fun K19 hK19 => ?_
        refine cx_region' ?_
        refine sx_rd' (rd_move' rfl) rfl rfl (wt_none' rfl) ?_
        refine sx_rd' (rd_assign' rfl) rfl rfl (wt_none' rfl) ?_
        refine sx_rd' (rd_assign' rfl) rfl rfl (wt_none' rfl) ?_
        refine sx_nil' ?_
        show TX E K19 _
        refine tx_k' hK19 ?_
        refine cx_retc' ?_
        replace hp := Option.some.inj hp
        subst hp
        show TX E (Zg E Exit.ret _ Exit.ret) _
        exact tx_zend' () rfl [0] (sub_cons rfl (sub_cons rfl sub_nil)) (by decide) (pick_cons rfl pick_nil)
      · dsimp only at hp
        refine sx_ox' (ox_callg' (ent_fn' Try.func142 isn142 rfl rfl) (gogeom_deflate0_v2_sim _ _ _ hr21 : Go.Sx.Fn Try.prog 142 [(Vl (Vs g901)), (Sl Kf r15), (Vl (.int .i64 a2))] [(Rw Kf 32 (Vs g901) x1)] (fun x : Gs => (Tu [(Vl (Vs x)), (Vl .nilIface)])) (fun x => [(Rw Kf 32 (Vs x) y3)])) [0] [1] (by decide) (pick_cons rfl pick_nil) (pick_cons rfl pick_nil) (Hn := fun x : Gs => [(Rw Kf 32 (Vs x) y3), (Rw (Kl Kf) 140 (Vs wa1) a1)]) (fun _ => rfl) rfl rfl) (wt_none' rfl) fun g21 => ?_
        refine sx_rd' (rd_move' rfl) rfl rfl (wt_none' rfl) ?_
        refine sx_rd' (rd_extract' rfl rfl) rfl rfl (wt_none' rfl) ?_
        refine sx_rd' (rd_extract' rfl rfl) rfl rfl (wt_none' rfl) ?_
        refine sx_rd' (rd_assign' rfl) rfl rfl (wt_none' rfl) ?_
        refine sx_rd' (rd_assign' rfl) rfl rfl (wt_none' rfl) ?_
        refine sx_nil' ?_
        show TX E K17 _
        refine tx_k' hK17 ?_
        refine cx_seq' fun K18 hK18 => ?_
        refine cx_region' ?_
        refine sx_rd' (rd_move' rfl) rfl rfl (wt_none' rfl) ?_
        refine sx_rd' (rd_binf' rfl rfl (bf_vl (fun _ => by kernel_rfl) nil_neq103_nilif)) rfl rfl (wt_none' rfl) ?_
        refine sx_nil' ?_
        show TX E K18 _
        refine tx_k' hK18 ?_
        refine cx_cond_f' rfl rfl ?_
        refine cx_skip' ?_
        show TX E K14 _
        refine tx_k' hK14 ?_
        refine cx_region' ?_
        refine sx_rd' (rd_bin' rfl rfl eg_int ru_add) rfl rfl (wt_none' rfl) ?_
        refine sx_rd' (rd_move' rfl) rfl rfl (wt_none' rfl) ?_
        refine sx_nil' ?_
        show TX E (KY1 _) _
        exact tx_pick' [0, 1] (sub_cons rfl (sub_cons rfl (sub_cons rfl (sub_cons rfl (sub_cons rfl sub_nil))))) (by decide) (pick_cons rfl (pick_cons rfl pick_nil)) (ih1 (y3, (iadd .i64 x2 1)) g21 _ hp)
    · replace hp := (br_f h3).symm.trans hp
      refine cx_exit' ?_
      replace hp := Option.some.inj hp
      subst hp
      show TX E (Zg E (Exit.exit 0) _ (Exit.exit 0)) _
      exact tx_zend' g901 rfl [0, 1] (sub_cons rfl sub_nil) (by decide) (pick_cons rfl (pick_cons rfl pick_nil))
  · rcases y5 with v2 | v3
    · dsimp only at hp
      refine zg_out fun w2 => ?_
      replace hp := Option.some.inj hp
      subst hp
      refine tx_pick' (L' := [(6, (Vl (.slice none 0 0))), (7, (If 225 (Ag [(Vl (.int .i64 v2.1)), (Vl (.int .i64 v2.2))])))]) (H' := [(Rw (Kl Kf) 140 (Vs wa1) a1)]) [0] (sub_cons rfl (sub_cons rfl sub_nil)) (by decide) (pick_cons rfl pick_nil) ?_
      exact tx_ret2' Try.results122 rfl (none, 0, 0) (rv_tmp' rfl) (rv_tmp' rfl) rfl (List.Sublist.refl _)
    · dsimp only at hp
      refine zg_out fun w3 => ?_
      show TX E K2 _
      refine tx_k' hK2 ?_
      refine cx_seq' fun K20 hK20 => ?_
      refine cx_region' ?_
      refine sx_rd' (rd_move' rfl) rfl rfl (wt_none' rfl) ?_
      refine sx_rd' (rd_assign' rfl) rfl rfl (wt_none' rfl) ?_
      refine sx_rd' (rd_assign' rfl) rfl rfl (wt_none' rfl) ?_
      refine sx_nil' ?_
      show TX E K20 _
      refine tx_k' hK20 ?_
      refine cx_retc' ?_
      replace hp := Option.some.inj hp
      subst hp
      refine tx_pick' (L' := [(6, (Vl (Vs w3))), (7, (Vl .nilIface))]) (H' := [(Rw (Kl Kf) 140 (Vs wa1) a1), (Rw Kf 32 (Vs w3) v3)]) [1, 0] (sub_cons rfl (sub_cons rfl sub_nil)) (by decide) (pick_cons rfl (pick_cons rfl pick_nil)) ?_
      exact tx_ret2' Try.results122 rfl w3 (rv_tmp' rfl) (rv_tmp' rfl) rfl (List.Sublist.refl _)

def gogeom_DoorDeflate1 (k : Nat) (a0 : List (List Nat)) (a1 : Int) : Option (((List (List Nat)) × Int × Int) ⊕ ((List (List Nat)) × (List Nat))) :=
  (gogeom_deflate1 k a0 a1) >>= fun r8 =>
  match r8 with
    | (.inl y1) =>
      (some (.inl (y1.1, y1.2.1, y1.2.2)))
    | (.inr y1) =>
      (some (.inr (y1.1, y1.2)))
def gogeom_DoorDeflate1_r (wa0 : Gs) (a0 : List (List Nat)) (a1 : Int) (out : ((List (List Nat)) × Int × Int) ⊕ ((List (List Nat)) × (List Nat))) (w : Unit) : SV := match out with
  | (.inl y) => (Tu [(Vl (.slice none 0 0)), (If 225 (Ag [(Vl (.int .i64 y.2.1)), (Vl (.int .i64 y.2.2))]))])
  | (.inr y) => (Tu [(Sl Kf y.2), (Vl .nilIface)])
def gogeom_DoorDeflate1_h (wa0 : Gs) (a0 : List (List Nat)) (a1 : Int) (out : ((List (List Nat)) × Int × Int) ⊕ ((List (List Nat)) × (List Nat))) (w : Unit) : List Res := match out with
  | (.inl y) => [(Rw (Kl Kf) 140 (Vs wa0) y.1)]
  | (.inr y) => [(Rw (Kl Kf) 140 (Vs wa0) y.1)]

theorem gogeom_DoorDeflate1_sim {k : Nat} {wa0 : Gs} (a0 : List (List Nat)) (a1 : Int) {out : ((List (List Nat)) × Int × Int) ⊕ ((List (List Nat)) × (List Nat))} (hp : gogeom_DoorDeflate1 k a0 a1 = some out) : Go.Sx.Fn Try.prog 87 [(Vl (Vs wa0)), (Vl (.int .i64 a1))] [(Rw (Kl Kf) 140 (Vs wa0) a0)] (fun w => gogeom_DoorDeflate1_r wa0 a0 a1 out w) (fun w => gogeom_DoorDeflate1_h wa0 a0 a1 out w) := by
  unfold gogeom_DoorDeflate1 at hp
  refine fn_of Try.func87 rfl Try.ntmps87 rfl fun E hM => ?_
  refine cx_seq' fun K1 hK1 => ?_
  refine cx_region' ?_
  refine sx_rd' (rd_assign' rfl) rfl rfl (wt_none' rfl) ?_
  refine sx_rd' (rd_assign' rfl) rfl rfl (wt_none' rfl) ?_
  refine sx_nil' ?_
  show TX E K1 _
  refine tx_k' hK1 ?_
  refine cx_seq' fun K2 hK2 => ?_
  refine cx_region' ?_
  refine sx_rd' (rd_move' rfl) rfl rfl (wt_none' rfl) ?_
  refine sx_rd' (rd_move' rfl) rfl rfl (wt_none' rfl) ?_
  obtain ⟨r8, hr8, hp⟩ := bind_some hp
  rcases r8 with y1 | y1
  · dsimp only at hp
    refine sx_ox' (ox_callg' (ent_fn' Try.func122 isn122 rfl rfl) (gogeom_deflate1_sim _ _ hr8 : Go.Sx.Fn Try.prog 122 [(Vl (.slice none 0 0)), (Vl (Vs wa0)), (Vl (.int .i64 a1))] [(Rw (Kl Kf) 140 (Vs wa0) a0)] (fun x : Gs => (Tu [(Vl (.slice none 0 0)), (If 225 (Ag [(Vl (.int .i64 y1.2.1)), (Vl (.int .i64 y1.2.2))]))])) (fun x => [(Rw (Kl Kf) 140 (Vs wa0) y1.1)])) [0] [] (by decide) (pick_cons rfl pick_nil) pick_nil (Hn := fun x : Gs => [(Rw (Kl Kf) 140 (Vs wa0) y1.1)]) (fun _ => rfl) rfl rfl) (wt_none' rfl) fun g8 => ?_
    refine sx_rd' (rd_extract' rfl rfl) rfl rfl (wt_none' rfl) ?_
    refine sx_rd' (rd_extract' rfl rfl) rfl rfl (wt_none' rfl) ?_
    refine sx_rd' (rd_assign' rfl) rfl rfl (wt_none' rfl) ?_
    refine sx_rd' (rd_assign' rfl) rfl rfl (wt_none' rfl) ?_
    refine sx_nil' ?_
    show TX E K2 _
    refine tx_k' hK2 ?_
    refine cx_retc' ?_
    replace hp := Option.some.inj hp
    subst hp
    refine tx_pick' (L' := [(4, (Vl (.slice none 0 0))), (5, (If 225 (Ag [(Vl (.int .i64 y1.2.1)), (Vl (.int .i64 y1.2.2))])))]) (H' := [(Rw (Kl Kf) 140 (Vs wa0) y1.1)]) [0] (sub_cons rfl (sub_cons rfl sub_nil)) (by decide) (pick_cons rfl pick_nil) ?_
    exact tx_ret2' Try.results87 rfl () (rv_tmp' rfl) (rv_tmp' rfl) rfl (List.Sublist.refl _)
  · dsimp only at hp
    refine sx_ox' (ox_callg' (ent_fn' Try.func122 isn122 rfl rfl) (gogeom_deflate1_sim _ _ hr8 : Go.Sx.Fn Try.prog 122 [(Vl (.slice none 0 0)), (Vl (Vs wa0)), (Vl (.int .i64 a1))] [(Rw (Kl Kf) 140 (Vs wa0) a0)] (fun x : Gs => (Tu [(Vl (Vs x)), (Vl .nilIface)])) (fun x => [(Rw (Kl Kf) 140 (Vs wa0) y1.1), (Rw Kf 32 (Vs x) y1.2)])) [0] [] (by decide) (pick_cons rfl pick_nil) pick_nil (Hn := fun x : Gs => [(Rw (Kl Kf) 140 (Vs wa0) y1.1), (Rw Kf 32 (Vs x) y1.2)]) (fun _ => rfl) rfl rfl) (wt_none' rfl) fun g8 => ?_
    refine sx_rd' (rd_extract' rfl rfl) rfl rfl (wt_none' rfl) ?_
    refine sx_rd' (rd_extract' rfl rfl) rfl rfl (wt_none' rfl) ?_
    refine sx_rd' (rd_assign' rfl) rfl rfl (wt_none' rfl) ?_
    refine sx_rd' (rd_assign' rfl) rfl rfl (wt_none' rfl) ?_
    refine sx_nil' ?_
    show TX E K2 _
    refine tx_k' hK2 ?_
    refine cx_retc' ?_
    replace hp := Option.some.inj hp
    subst hp
    refine tx_fz' (frz_row 1 [(4, (Vl (Vs g8)), (Sl Kf y1.2)), (9, (Vl (Vs g8)), (Sl Kf y1.2))] (K := Kf) (xs := y1.2) (by decide) rfl ⟨⟨rfl, frz_it⟩, ⟨rfl, frz_it⟩, trivial⟩ (H' := [(Rw (Kl Kf) 140 (Vs wa0) y1.1)]) frzH_refl) ?_
    refine tx_pick' (L' := [(4, (Sl Kf y1.2)), (5, (Vl .nilIface))]) (H' := [(Rw (Kl Kf) 140 (Vs wa0) y1.1)]) [0] (sub_cons rfl (sub_cons rfl sub_nil)) (by decide) (pick_cons rfl pick_nil) ?_
    exact tx_ret2' Try.results87 rfl () (rv_tmp' rfl) (rv_tmp' rfl) rfl (List.Sublist.refl _)

def impl_floats_v2 (k : Nat)  : Option ((List Nat)) :=
  (apd 8 [] []) >>= fun r4 =>
  some r4

theorem impl_floats_v2_sim {k : Nat}   {out : (List Nat)} (hp : impl_floats_v2 k = some out) : Go.Sx.Fn Try.prog 58 [(Vl (.slice none 0 0))] [] (fun w : Unit => (Sl Kf out)) (fun w => []) := by
  unfold impl_floats_v2 at hp
  refine fn_of Try.func58 rfl Try.ntmps58 rfl fun E hM => ?_
  refine cx_seq' fun K1 hK1 => ?_
  refine cx_region' ?_
  refine sx_rd' (rd_assign' rfl) rfl rfl (wt_none' rfl) ?_
  refine sx_nil' ?_
  show TX E K1 _
  refine tx_k' hK1 ?_
  refine cx_seq' fun K2 hK2 => ?_
  refine cx_region' ?_
  refine sx_rd' (rd_move' rfl) rfl rfl (wt_none' rfl) ?_
  refine tx_nilrow' Kf 32 ?_
  obtain ⟨r4, hr4, hp⟩ := bind_some hp
  refine sx_ox' (ox_append' (K := Kf) (i := 0) (xs := []) (ys := []) rfl rfl rfl (sr_nil' rfl Try.underlying22) hr4 Try.underlying22 info32 rfl rfl rfl (H' := []) rfl) (wt_none' rfl) fun g4 => ?_
  refine sx_rd' (rd_assign' rfl) rfl rfl (wt_none' rfl) ?_
  refine sx_nil' ?_
  show TX E K2 _
  refine tx_k' hK2 ?_
  refine cx_retc' ?_
  replace hp := Option.some.inj hp
  subst hp
  refine tx_fz' (frz_row 0 [(2, (Vl (Vs g4)), (Sl Kf r4)), (4, (Vl (Vs g4)), (Sl Kf r4))] (K := Kf) (xs := r4) (by decide) rfl ⟨⟨rfl, frz_it⟩, ⟨rfl, frz_it⟩, trivial⟩ (H' := []) frzH_refl) ?_
  refine tx_pick' (L' := [(2, (Sl Kf r4))]) (H' := []) [] (sub_cons rfl sub_nil) (by decide) pick_nil ?_
  exact tx_ret1' Try.results58 rfl () (rv_tmp' rfl) (List.Sublist.refl _)

def impl_Deflate1 (k : Nat) (a0 : List (List Nat)) (a1 : Int) : Option ((List Nat) × Bool) :=
  (impl_coords1 k a0) >>= fun r11 =>
  (gogeom_DoorDeflate1 k r11 a1) >>= fun r13 =>
  match r13 with
    | (.inl y2) =>
      ((impl_floats_v2 k) >>= fun r17 =>
      some (r17, false))
    | (.inr y2) =>
      ((impl_floats k y2.2) >>= fun r17 =>
      some (r17, true))

theorem impl_Deflate1_sim {k : Nat}  (a0 : List (List Nat)) (a1 : Int) {out : (List Nat) × Bool} (hp : impl_Deflate1 k a0 a1 = some out) : Go.Sx.Fn Try.prog 42 [(Sl (Kl Kf) a0), (Vl (.int .i64 a1))] [] (fun w : Unit => (Tu [(Sl Kf out.1), (Vl (.bool out.2))])) (fun w => []) := by
  unfold impl_Deflate1 at hp
  refine fnD_of Try.func42 rfl Try.ntmps42 rfl fun E hM => ?_
  refine cx_seq' fun K1 hK1 => ?_
  refine cx_region' ?_
  refine sx_ox' (ox_alloc' info22 rfl rfl rfl rfl (l := [(Vl (.slice none 0 0))]) rfl) (wt_none' rfl) fun q4 => ?_
  refine sx_ox' (ox_alloc' info4 rfl rfl rfl rfl (l := [(Vl (.bool false))]) rfl) (wt_none' rfl) fun q5 => ?_
  refine sx_nil' ?_
  show TX E K1 _
  refine tx_k' hK1 ?_
  refine cx_seq' fun K2 hK2 => ?_
  refine cx_region' ?_
  refine sx_rd' (rd_mkfunc' (us := [.pointer (some q4), .pointer (some q5)]) rfl) rfl rfl (wt_none' rfl) ?_
  refine sx_ox' (ox_defer' rfl rfl) (wt_none' rfl) fun _ => ?_
  refine sx_nil' ?_
  show TX E K2 _
  refine tx_k' hK2 ?_
  refine cx_seq' fun K3 hK3 => ?_
  refine cx_region' ?_
  refine sx_rd' (rd_move' rfl) rfl rfl (wt_none' rfl) ?_
  obtain ⟨r11, hr11, hp⟩ := bind_some hp
  refine sx_ox' (ox_calln' (ent_fn' Try.func88 isn88 rfl rfl) (impl_coords1_sim _ hr11 : Go.Sx.Fn Try.prog 88 [(Sl (Kl Kf) a0)] [] (fun x : Gs => (Vl (Vs x))) (fun x => [(Rw (Kl Kf) 140 (Vs x) r11)])) (Hn := fun x : Gs => [(Rw (Kl Kf) 140 (Vs x) r11), ⟨.pointer (some q5), [(Vl (.bool false))], 4, none⟩, ⟨.pointer (some q4), [(Vl (.slice none 0 0))], 22, none⟩]) (fun _ => rfl) rfl rfl) (wt_none' rfl) fun g11 => ?_
  refine sx_rd' (rd_move' rfl) rfl rfl (wt_none' rfl) ?_
  obtain ⟨r13, hr13, hp⟩ := bind_some hp
  rcases r13 with y2 | y2
  · dsimp only at hp
    refine sx_ox' (ox_callg' (ent_fn' Try.func87 isn87 rfl rfl) (gogeom_DoorDeflate1_sim _ _ hr13 : Go.Sx.Fn Try.prog 87 [(Vl (Vs g11)), (Vl (.int .i64 a1))] [(Rw (Kl Kf) 140 (Vs g11) r11)] (fun x : Unit => (Tu [(Vl (.slice none 0 0)), (If 225 (Ag [(Vl (.int .i64 y2.2.1)), (Vl (.int .i64 y2.2.2))]))])) (fun x => [(Rw (Kl Kf) 140 (Vs g11) y2.1)])) [0] [1, 2] (by decide) (pick_cons rfl pick_nil) (pick_cons rfl (pick_cons rfl pick_nil)) (Hn := fun x : Unit => [(Rw (Kl Kf) 140 (Vs g11) y2.1), ⟨.pointer (some q5), [(Vl (.bool false))], 4, none⟩, ⟨.pointer (some q4), [(Vl (.slice none 0 0))], 22, none⟩]) (fun _ => rfl) rfl rfl) (wt_none' rfl) fun ⟨⟩ => ?_
    refine sx_rd' (rd_move' rfl) rfl rfl (wt_none' rfl) ?_
    refine sx_rd' (rd_extract' rfl rfl) rfl rfl (wt_none' rfl) ?_
    refine sx_rd' (rd_extract' rfl rfl) rfl rfl (wt_none' rfl) ?_
    refine sx_rd' (rd_assign' rfl) rfl rfl (wt_none' rfl) ?_
    refine sx_rd' (rd_assign' rfl) rfl rfl (wt_none' rfl) ?_
    refine sx_nil' ?_
    show TX E K3 _
    refine tx_k' hK3 ?_
    refine cx_seq' fun K4 hK4 => ?_
    refine cx_plana' [] [(4, 1), (5, 1)] [(0, 1), (2, 2)] 4 #[true, false, true, false, false, false] mixed (by kernel_rfl) ?_
    refine px_rd' rfl (rd_move' rfl) rfl rfl (wt_none' rfl) ?_
    refine px_rb' rfl (rb_move' rfl) rfl rfl (wt_none' rfl) ?_
    refine px_nil' ?_
    show AX E _ _ _ _ _ _ _ _
    obtain ⟨r17, hr17, hp⟩ := bind_some hp
    refine ax_node (f' := 0) #[true, true, true, true, true, true] (fun (v6 : Addr × Addr) => (⟨20, [⟨.fn (.func 86) ⟨[.pointer (some q4), .pointer (some q5)]⟩, #[]⟩], [(4, (Vl (.pointer (some v6.1)))), (5, (Vl (.pointer (some v6.2))))], [⟨.pointer (some v6.1), [(Sl Kf r17)], 22, none⟩, ⟨.pointer (some v6.2), [(Vl (.bool false))], 4, none⟩]⟩ : St)) ?_ ?_
    · rintro ⟨q9011, q9012⟩
      refine ax_nil (by kernel_rfl) ?_
      show TX E K4 _
      refine tx_k' hK4 ?_
      refine cx_retc' ?_
      replace hp := Option.some.inj hp
      subst hp
      refine tx_leave' (.inl rfl) rfl idle86 rfl Try.func86 isn86 rfl ?_
      refine tx_pick' (L' := [(4, (Vl (.pointer (some q9011)))), (5, (Vl (.pointer (some q9012))))]) (H' := [⟨.pointer (some q9011), [(Sl Kf r17)], 22, none⟩, ⟨.pointer (some q9012), [(Vl (.bool false))], 4, none⟩]) [0, 1] (sub_cons rfl (sub_cons rfl sub_nil)) (by decide) (pick_cons rfl (pick_cons rfl pick_nil)) ?_
      exact tx_ret2' Try.results42 rfl () (rv_cell' (i := 0) (o := 0) rfl ⟨rfl, rfl, rfl, rfl⟩ rfl flat22) (rv_cell' (i := 1) (o := 0) rfl ⟨rfl, rfl, rfl, rfl⟩ rfl flat4) rfl (List.nil_sublist _)
    intro hN7
    refine ax_node (f' := 1) #[true, true, true, true, true, false] (fun (v5 : Addr × Addr) => (⟨20, [⟨.fn (.func 86) ⟨[.pointer (some q4), .pointer (some q5)]⟩, #[]⟩], [(4, (Vl (.pointer (some v5.1)))), (5, (Vl (.pointer (some v5.2)))), (19, (Vl (.bool false)))], [⟨.pointer (some v5.1), [(Sl Kf r17)], 22, none⟩, ⟨.pointer (some v5.2), [(Vl (.bool false))], 4, none⟩]⟩ : St)) ?_ ?_
    · rintro ⟨q909, q9010⟩
      refine ax_all (i := 5) (is := []) (by kernel_rfl) (all_cons ?_ all_nil)
      · refine nx_oxv (last := #[true, true, true, true, true, true]) rfl (oxv_store (i := 1) (o := 0) rfl rfl (lv_vl rfl rfl) ⟨rfl, rfl, rfl, rfl⟩ rfl info4 rfl (H' := [⟨.pointer (some q909), [(Sl Kf r17)], 22, none⟩, ⟨.pointer (some q9010), [(Vl (.bool false))], 4, none⟩]) rfl) rfl rfl bo_nil (wt_none' rfl) rfl fun _ => ?_
        exact tx_pick' [0, 1] (sub_cons rfl (sub_cons rfl sub_nil)) (by decide) (pick_cons rfl (pick_cons rfl pick_nil)) (hN7 (q909, q9010))
    intro hN6
    refine ax_node (f' := 2) #[true, true, true, true, false, false] (fun (v3 : Addr × Addr) => (⟨20, [⟨.fn (.func 86) ⟨[.pointer (some q4), .pointer (some q5)]⟩, #[]⟩], [(4, (Vl (.pointer (some v3.1)))), (5, (Vl (.pointer (some v3.2)))), (17, (Sl Kf r17)), (19, (Vl (.bool false)))], [⟨.pointer (some v3.1), [(Vl (.slice none 0 0))], 22, none⟩, ⟨.pointer (some v3.2), [(Vl (.bool false))], 4, none⟩]⟩ : St)) ?_ ?_
    · rintro ⟨q905, q906⟩
      refine ax_all (i := 4) (is := []) (by kernel_rfl) (all_cons ?_ all_nil)
      · refine nx_oxv (last := #[true, true, true, true, true, false]) rfl (oxv_store (i := 0) (o := 0) rfl rfl (lv_sl _ _) ⟨rfl, rfl, rfl, rfl⟩ rfl info22 rfl (H' := [⟨.pointer (some q905), [(Sl Kf r17)], 22, none⟩, ⟨.pointer (some q906), [(Vl (.bool false))], 4, none⟩]) rfl) rfl rfl bo_nil (wt_none' rfl) rfl fun _ => ?_
        exact tx_pick' [0, 1] (sub_cons rfl (sub_cons rfl (sub_cons rfl sub_nil))) (by decide) (pick_cons rfl (pick_cons rfl pick_nil)) (hN6 (q905, q906))
    intro hN4
    refine ax_node (f' := 2) #[true, true, true, false, true, false] (fun (v4 : Addr × Addr) => (⟨20, [⟨.fn (.func 86) ⟨[.pointer (some q4), .pointer (some q5)]⟩, #[]⟩], [(4, (Vl (.pointer (some v4.1)))), (5, (Vl (.pointer (some v4.2)))), (18, (If 225 (Ag [(Vl (.int .i64 y2.2.1)), (Vl (.int .i64 y2.2.2))])))], [⟨.pointer (some v4.1), [(Sl Kf r17)], 22, none⟩, ⟨.pointer (some v4.2), [(Vl (.bool false))], 4, none⟩]⟩ : St)) ?_ ?_
    · rintro ⟨q907, q908⟩
      refine ax_rd (ix := 3) (last := #[true, true, true, true, true, false]) (by kernel_rfl) rfl (rd_binf' rfl rfl (bf_if (fun _ _ => by kernel_rfl) nil_eql103_if225)) rfl rfl (wt_none' rfl) rfl ?_
      exact tx_pick' [0, 1] (sub_cons rfl (sub_cons rfl (sub_cons rfl sub_nil))) (by decide) (pick_cons rfl (pick_cons rfl pick_nil)) (hN6 (q907, q908))
    intro hN5
    refine ax_node (f' := 3) #[true, true, true, false, false, false] (fun (v1 : Addr × Addr) => (⟨20, [⟨.fn (.func 86) ⟨[.pointer (some q4), .pointer (some q5)]⟩, #[]⟩], [(4, (Vl (.pointer (some v1.1)))), (5, (Vl (.pointer (some v1.2)))), (17, (Sl Kf r17)), (18, (If 225 (Ag [(Vl (.int .i64 y2.2.1)), (Vl (.int .i64 y2.2.2))])))], [⟨.pointer (some v1.1), [(Vl (.slice none 0 0))], 22, none⟩, ⟨.pointer (some v1.2), [(Vl (.bool false))], 4, none⟩]⟩ : St)) ?_ ?_
    · rintro ⟨q901, q902⟩
      refine ax_all (i := 3) (is := [4]) (by kernel_rfl) (all_cons ?_ (all_cons ?_ all_nil))
      · refine nx_rd (last := #[true, true, true, true, false, false]) rfl (rd_binf' rfl rfl (bf_if (fun _ _ => by kernel_rfl) nil_eql103_if225)) rfl rfl (wt_none' rfl) rfl ?_
        exact tx_pick' [0, 1] (sub_cons rfl (sub_cons rfl (sub_cons rfl (sub_cons rfl sub_nil)))) (by decide) (pick_cons rfl (pick_cons rfl pick_nil)) (hN4 (q901, q902))
      · refine nx_oxv (last := #[true, true, true, false, true, false]) rfl (oxv_store (i := 0) (o := 0) rfl rfl (lv_sl _ _) ⟨rfl, rfl, rfl, rfl⟩ rfl info22 rfl (H' := [⟨.pointer (some q901), [(Sl Kf r17)], 22, none⟩, ⟨.pointer (some q902), [(Vl (.bool false))], 4, none⟩]) rfl) rfl rfl bo_nil (wt_none' rfl) rfl fun _ => ?_
        exact tx_pick' [0, 1] (sub_cons rfl (sub_cons rfl (sub_cons rfl sub_nil))) (by decide) (pick_cons rfl (pick_cons rfl pick_nil)) (hN5 (q901, q902))
    intro hN2
    refine ax_node (f' := 3) #[true, false, true, true, false, false] (fun (v2 : Addr × Addr) => (⟨20, [⟨.fn (.func 86) ⟨[.pointer (some q4), .pointer (some q5)]⟩, #[]⟩], [(4, (Vl (.pointer (some v2.1)))), (5, (Vl (.pointer (some v2.2)))), (16, (Vl (.slice none 0 0))), (19, (Vl (.bool false)))], [⟨.pointer (some v2.1), [(Vl (.slice none 0 0))], 22, none⟩, ⟨.pointer (some v2.2), [(Vl (.bool false))], 4, none⟩]⟩ : St)) ?_ ?_
    · rintro ⟨q903, q904⟩
      refine ax_all (i := 1) (is := []) (by kernel_rfl) (all_cons ?_ all_nil)
      · refine nx_ox (last := #[true, true, true, true, false, false]) rfl (ox_calln' (ent_fn' Try.func58 isn58 rfl rfl) (impl_floats_v2_sim hr17 : Go.Sx.Fn Try.prog 58 [(Vl (.slice none 0 0))] [] (fun x : Unit => (Sl Kf r17)) (fun x => [])) (Hn := fun x : Unit => [⟨.pointer (some q903), [(Vl (.slice none 0 0))], 22, none⟩, ⟨.pointer (some q904), [(Vl (.bool false))], 4, none⟩]) (fun _ => rfl) rfl rfl) rfl bs_nil (wt_none' rfl) rfl fun ⟨⟩ => ?_
        exact tx_pick' [0, 1] (sub_cons rfl (sub_cons rfl (sub_cons rfl (sub_cons rfl sub_nil)))) (by decide) (pick_cons rfl (pick_cons rfl pick_nil)) (hN4 (q903, q904))
    intro hN3
    refine ax_all (i := 1) (is := [3]) (by kernel_rfl) (all_cons ?_ (all_cons ?_ all_nil))
    · refine nx_ox (last := #[true, true, true, false, false, false]) rfl (ox_calln' (ent_fn' Try.func58 isn58 rfl rfl) (impl_floats_v2_sim hr17 : Go.Sx.Fn Try.prog 58 [(Vl (.slice none 0 0))] [] (fun x : Unit => (Sl Kf r17)) (fun x => [])) (Hn := fun x : Unit => [(Rw (Kl Kf) 140 (Vs g11) y2.1), ⟨.pointer (some q5), [(Vl (.bool false))], 4, none⟩, ⟨.pointer (some q4), [(Vl (.slice none 0 0))], 22, none⟩]) (fun _ => rfl) rfl rfl) rfl bs_nil (wt_none' rfl) rfl fun ⟨⟩ => ?_
      exact tx_pick' [2, 1] (sub_cons rfl (sub_cons rfl (sub_cons rfl (sub_cons rfl sub_nil)))) (by decide) (pick_cons rfl (pick_cons rfl pick_nil)) (hN2 (q4, q5))
    · refine nx_rd (last := #[true, false, true, true, false, false]) rfl (rd_binf' rfl rfl (bf_if (fun _ _ => by kernel_rfl) nil_eql103_if225)) rfl rfl (wt_none' rfl) rfl ?_
      exact tx_pick' [2, 1] (sub_cons rfl (sub_cons rfl (sub_cons rfl (sub_cons rfl sub_nil)))) (by decide) (pick_cons rfl (pick_cons rfl pick_nil)) (hN3 (q4, q5))
  · dsimp only at hp
    refine sx_ox' (ox_callg' (ent_fn' Try.func87 isn87 rfl rfl) (gogeom_DoorDeflate1_sim _ _ hr13 : Go.Sx.Fn Try.prog 87 [(Vl (Vs g11)), (Vl (.int .i64 a1))] [(Rw (Kl Kf) 140 (Vs g11) r11)] (fun x : Unit => (Tu [(Sl Kf y2.2), (Vl .nilIface)])) (fun x => [(Rw (Kl Kf) 140 (Vs g11) y2.1)])) [0] [1, 2] (by decide) (pick_cons rfl pick_nil) (pick_cons rfl (pick_cons rfl pick_nil)) (Hn := fun x : Unit => [(Rw (Kl Kf) 140 (Vs g11) y2.1), ⟨.pointer (some q5), [(Vl (.bool false))], 4, none⟩, ⟨.pointer (some q4), [(Vl (.slice none 0 0))], 22, none⟩]) (fun _ => rfl) rfl rfl) (wt_none' rfl) fun ⟨⟩ => ?_
    refine sx_rd' (rd_move' rfl) rfl rfl (wt_none' rfl) ?_
    refine sx_rd' (rd_extract' rfl rfl) rfl rfl (wt_none' rfl) ?_
    refine sx_rd' (rd_extract' rfl rfl) rfl rfl (wt_none' rfl) ?_
    refine sx_rd' (rd_assign' rfl) rfl rfl (wt_none' rfl) ?_
    refine sx_rd' (rd_assign' rfl) rfl rfl (wt_none' rfl) ?_
    refine sx_nil' ?_
    show TX E K3 _
    refine tx_k' hK3 ?_
    refine cx_seq' fun K4 hK4 => ?_
    refine cx_plana' [] [(4, 1), (5, 1)] [(0, 1), (2, 2)] 4 #[true, false, true, false, false, false] mixed (by kernel_rfl) ?_
    refine px_rd' rfl (rd_move' rfl) rfl rfl (wt_none' rfl) ?_
    refine px_rb' rfl (rb_move' rfl) rfl rfl (wt_none' rfl) ?_
    refine px_nil' ?_
    show AX E _ _ _ _ _ _ _ _
    obtain ⟨r17, hr17, hp⟩ := bind_some hp
    refine ax_node (f' := 0) #[true, true, true, true, true, true] (fun (v6 : Addr × Addr) => (⟨20, [⟨.fn (.func 86) ⟨[.pointer (some q4), .pointer (some q5)]⟩, #[]⟩], [(4, (Vl (.pointer (some v6.1)))), (5, (Vl (.pointer (some v6.2))))], [⟨.pointer (some v6.1), [(Sl Kf r17)], 22, none⟩, ⟨.pointer (some v6.2), [(Vl (.bool true))], 4, none⟩]⟩ : St)) ?_ ?_
    · rintro ⟨q9011, q9012⟩
      refine ax_nil (by kernel_rfl) ?_
      show TX E K4 _
      refine tx_k' hK4 ?_
      refine cx_retc' ?_
      replace hp := Option.some.inj hp
      subst hp
      refine tx_leave' (.inl rfl) rfl idle86 rfl Try.func86 isn86 rfl ?_
      refine tx_pick' (L' := [(4, (Vl (.pointer (some q9011)))), (5, (Vl (.pointer (some q9012))))]) (H' := [⟨.pointer (some q9011), [(Sl Kf r17)], 22, none⟩, ⟨.pointer (some q9012), [(Vl (.bool true))], 4, none⟩]) [0, 1] (sub_cons rfl (sub_cons rfl sub_nil)) (by decide) (pick_cons rfl (pick_cons rfl pick_nil)) ?_
      exact tx_ret2' Try.results42 rfl () (rv_cell' (i := 0) (o := 0) rfl ⟨rfl, rfl, rfl, rfl⟩ rfl flat22) (rv_cell' (i := 1) (o := 0) rfl ⟨rfl, rfl, rfl, rfl⟩ rfl flat4) rfl (List.nil_sublist _)
    intro hN7
    refine ax_node (f' := 1) #[true, true, true, true, true, false] (fun (v5 : Addr × Addr) => (⟨20, [⟨.fn (.func 86) ⟨[.pointer (some q4), .pointer (some q5)]⟩, #[]⟩], [(4, (Vl (.pointer (some v5.1)))), (5, (Vl (.pointer (some v5.2)))), (19, (Vl (.bool true)))], [⟨.pointer (some v5.1), [(Sl Kf r17)], 22, none⟩, ⟨.pointer (some v5.2), [(Vl (.bool false))], 4, none⟩]⟩ : St)) ?_ ?_
    · rintro ⟨q909, q9010⟩
      refine ax_all (i := 5) (is := []) (by kernel_rfl) (all_cons ?_ all_nil)
      · refine nx_oxv (last := #[true, true, true, true, true, true]) rfl (oxv_store (i := 1) (o := 0) rfl rfl (lv_vl rfl rfl) ⟨rfl, rfl, rfl, rfl⟩ rfl info4 rfl (H' := [⟨.pointer (some q909), [(Sl Kf r17)], 22, none⟩, ⟨.pointer (some q9010), [(Vl (.bool true))], 4, none⟩]) rfl) rfl rfl bo_nil (wt_none' rfl) rfl fun _ => ?_
        exact tx_pick' [0, 1] (sub_cons rfl (sub_cons rfl sub_nil)) (by decide) (pick_cons rfl (pick_cons rfl pick_nil)) (hN7 (q909, q9010))
    intro hN6
    refine ax_node (f' := 2) #[true, true, true, true, false, false] (fun (v3 : Addr × Addr) => (⟨20, [⟨.fn (.func 86) ⟨[.pointer (some q4), .pointer (some q5)]⟩, #[]⟩], [(4, (Vl (.pointer (some v3.1)))), (5, (Vl (.pointer (some v3.2)))), (17, (Sl Kf r17)), (19, (Vl (.bool true)))], [⟨.pointer (some v3.1), [(Vl (.slice none 0 0))], 22, none⟩, ⟨.pointer (some v3.2), [(Vl (.bool false))], 4, none⟩]⟩ : St)) ?_ ?_
    · rintro ⟨q905, q906⟩
      refine ax_all (i := 4) (is := []) (by kernel_rfl) (all_cons ?_ all_nil)
      · refine nx_oxv (last := #[true, true, true, true, true, false]) rfl (oxv_store (i := 0) (o := 0) rfl rfl (lv_sl _ _) ⟨rfl, rfl, rfl, rfl⟩ rfl info22 rfl (H' := [⟨.pointer (some q905), [(Sl Kf r17)], 22, none⟩, ⟨.pointer (some q906), [(Vl (.bool false))], 4, none⟩]) rfl) rfl rfl bo_nil (wt_none' rfl) rfl fun _ => ?_
        exact tx_pick' [0, 1] (sub_cons rfl (sub_cons rfl (sub_cons rfl sub_nil))) (by decide) (pick_cons rfl (pick_cons rfl pick_nil)) (hN6 (q905, q906))
    intro hN4
    refine ax_node (f' := 2) #[true, true, true, false, true, false] (fun (v4 : Addr × Addr) => (⟨20, [⟨.fn (.func 86) ⟨[.pointer (some q4), .pointer (some q5)]⟩, #[]⟩], [(4, (Vl (.pointer (some v4.1)))), (5, (Vl (.pointer (some v4.2)))), (18, (Vl .nilIface))], [⟨.pointer (some v4.1), [(Sl Kf r17)], 22, none⟩, ⟨.pointer (some v4.2), [(Vl (.bool false))], 4, none⟩]⟩ : St)) ?_ ?_
    · rintro ⟨q907, q908⟩
      refine ax_rd (ix := 3) (last := #[true, true, true, true, true, false]) (by kernel_rfl) rfl (rd_binf' rfl rfl (bf_vl (fun _ => by kernel_rfl) nil_eql103_nilif)) rfl rfl (wt_none' rfl) rfl ?_
      exact tx_pick' [0, 1] (sub_cons rfl (sub_cons rfl (sub_cons rfl sub_nil))) (by decide) (pick_cons rfl (pick_cons rfl pick_nil)) (hN6 (q907, q908))
    intro hN5
    refine ax_node (f' := 3) #[true, true, true, false, false, false] (fun (v1 : Addr × Addr) => (⟨20, [⟨.fn (.func 86) ⟨[.pointer (some q4), .pointer (some q5)]⟩, #[]⟩], [(4, (Vl (.pointer (some v1.1)))), (5, (Vl (.pointer (some v1.2)))), (17, (Sl Kf r17)), (18, (Vl .nilIface))], [⟨.pointer (some v1.1), [(Vl (.slice none 0 0))], 22, none⟩, ⟨.pointer (some v1.2), [(Vl (.bool false))], 4, none⟩]⟩ : St)) ?_ ?_
    · rintro ⟨q901, q902⟩
      refine ax_all (i := 3) (is := [4]) (by kernel_rfl) (all_cons ?_ (all_cons ?_ all_nil))
      · refine nx_rd (last := #[true, true, true, true, false, false]) rfl (rd_binf' rfl rfl (bf_vl (fun _ => by kernel_rfl) nil_eql103_nilif)) rfl rfl (wt_none' rfl) rfl ?_
        exact tx_pick' [0, 1] (sub_cons rfl (sub_cons rfl (sub_cons rfl (sub_cons rfl sub_nil)))) (by decide) (pick_cons rfl (pick_cons rfl pick_nil)) (hN4 (q901, q902))
      · refine nx_oxv (last := #[true, true, true, false, true, false]) rfl (oxv_store (i := 0) (o := 0) rfl rfl (lv_sl _ _) ⟨rfl, rfl, rfl, rfl⟩ rfl info22 rfl (H' := [⟨.pointer (some q901), [(Sl Kf r17)], 22, none⟩, ⟨.pointer (some q902), [(Vl (.bool false))], 4, none⟩]) rfl) rfl rfl bo_nil (wt_none' rfl) rfl fun _ => ?_
        exact tx_pick' [0, 1] (sub_cons rfl (sub_cons rfl (sub_cons rfl sub_nil))) (by decide) (pick_cons rfl (pick_cons rfl pick_nil)) (hN5 (q901, q902))
    intro hN2
    refine ax_node (f' := 3) #[true, false, true, true, false, false] (fun (v2 : Addr × Addr) => (⟨20, [⟨.fn (.func 86) ⟨[.pointer (some q4), .pointer (some q5)]⟩, #[]⟩], [(4, (Vl (.pointer (some v2.1)))), (5, (Vl (.pointer (some v2.2)))), (16, (Sl Kf y2.2)), (19, (Vl (.bool true)))], [⟨.pointer (some v2.1), [(Vl (.slice none 0 0))], 22, none⟩, ⟨.pointer (some v2.2), [(Vl (.bool false))], 4, none⟩]⟩ : St)) ?_ ?_
    · rintro ⟨q903, q904⟩
      refine ax_all (i := 1) (is := []) (by kernel_rfl) (all_cons ?_ all_nil)
      · refine nx_ox (last := #[true, true, true, true, false, false]) rfl (ox_calln' (ent_fn' Try.func58 isn58 rfl rfl) (impl_floats_sim _ hr17 : Go.Sx.Fn Try.prog 58 [(Sl Kf y2.2)] [] (fun x : Unit => (Sl Kf r17)) (fun x => [])) (Hn := fun x : Unit => [⟨.pointer (some q903), [(Vl (.slice none 0 0))], 22, none⟩, ⟨.pointer (some q904), [(Vl (.bool false))], 4, none⟩]) (fun _ => rfl) rfl rfl) rfl bs_nil (wt_none' rfl) rfl fun ⟨⟩ => ?_
        exact tx_pick' [0, 1] (sub_cons rfl (sub_cons rfl (sub_cons rfl (sub_cons rfl sub_nil)))) (by decide) (pick_cons rfl (pick_cons rfl pick_nil)) (hN4 (q903, q904))
    intro hN3
    refine ax_all (i := 1) (is := [3]) (by kernel_rfl) (all_cons ?_ (all_cons ?_ all_nil))
    · refine nx_ox (last := #[true, true, true, false, false, false]) rfl (ox_calln' (ent_fn' Try.func58 isn58 rfl rfl) (impl_floats_sim _ hr17 : Go.Sx.Fn Try.prog 58 [(Sl Kf y2.2)] [] (fun x : Unit => (Sl Kf r17)) (fun x => [])) (Hn := fun x : Unit => [(Rw (Kl Kf) 140 (Vs g11) y2.1), ⟨.pointer (some q5), [(Vl (.bool false))], 4, none⟩, ⟨.pointer (some q4), [(Vl (.slice none 0 0))], 22, none⟩]) (fun _ => rfl) rfl rfl) rfl bs_nil (wt_none' rfl) rfl fun ⟨⟩ => ?_
      exact tx_pick' [2, 1] (sub_cons rfl (sub_cons rfl (sub_cons rfl (sub_cons rfl sub_nil)))) (by decide) (pick_cons rfl (pick_cons rfl pick_nil)) (hN2 (q4, q5))
    · refine nx_rd (last := #[true, false, true, true, false, false]) rfl (rd_binf' rfl rfl (bf_vl (fun _ => by kernel_rfl) nil_eql103_nilif)) rfl rfl (wt_none' rfl) rfl ?_
      exact tx_pick' [2, 1] (sub_cons rfl (sub_cons rfl (sub_cons rfl (sub_cons rfl sub_nil)))) (by decide) (pick_cons rfl (pick_cons rfl pick_nil)) (hN3 (q4, q5))

def impl_coords2_l1s (a0 : List (List (List Nat))) (k : Nat) (rec1 : ((List (List (List Nat))) × Int) → Option ((List (List (List Nat))))) (x1 : List (List (List Nat))) (x2 : Int) : Option ((List (List (List Nat)))) :=
  br (decide (x2 < (a0.length : Int)))
    ((idx a0 x2) >>= fun r10 =>
    (impl_coords1 k r10) >>= fun r14 =>
    (apd 24 x1 ([r14])) >>= fun r16 =>
    rec1 (r16, (iadd .i64 x2 1)))
    (some x1)
def impl_coords2_l1 (a0 : List (List (List Nat))) : Nat → ((List (List (List Nat))) × Int) → Option ((List (List (List Nat))))
  | 0, _ => none
  | k + 1, v => impl_coords2_l1s a0 k (impl_coords2_l1 a0 k) v.1 v.2
def impl_coords2 (k : Nat) (a0 : List (List (List Nat))) : Option ((List (List (List Nat)))) :=
  (impl_coords2_l1 a0 k ([], 0)) >>= fun v2 =>
  some v2

theorem impl_coords2_sim {k : Nat}  (a0 : List (List (List Nat))) {out : (List (List (List Nat)))} (hp : impl_coords2 k a0 = some out) : Go.Sx.Fn Try.prog 67 [(Sl (Kl (Kl Kf)) a0)] [] (fun w : Gs => (Vl (Vs w))) (fun w => [(Rw (Kl (Kl Kf)) 117 (Vs w) out)]) := by
  unfold impl_coords2 at hp
  refine fn_of Try.func67 rfl Try.ntmps67 rfl fun E hM => ?_
  refine cx_seq' fun K1 hK1 => ?_
  refine cx_region' ?_
  refine sx_rd' (rd_assign' rfl) rfl rfl (wt_none' rfl) ?_
  refine sx_nil' ?_
  show TX E K1 _
  refine tx_k' hK1 ?_
  refine cx_seq' fun K2 hK2 => ?_
  refine cx_region' ?_
  refine sx_rd' (rd_assign' rfl) rfl rfl (wt_none' rfl) ?_
  refine sx_nil' ?_
  show TX E K2 _
  refine tx_k' hK2 ?_
  refine cx_seq' fun K3 hK3 => ?_
  refine cx_seq' fun K4 hK4 => ?_
  refine cx_region' ?_
  refine sx_rd' (rd_move' rfl) rfl rfl (wt_none' rfl) ?_
  refine sx_rd' (rd_len' rfl Try.underlying43) rfl rfl (wt_none' rfl) ?_
  refine sx_rd' (rd_move' rfl) rfl rfl (wt_none' rfl) ?_
  refine sx_nil' ?_
  show TX E K4 _
  refine tx_k' hK4 ?_
  refine cx_block' ?_
  obtain ⟨v2, hy1, hp⟩ := bind_some hp
  refine tx_nilrow' (Kl (Kl Kf)) 117 ?_
  refine cx_loopg' (F := impl_coords2_l1 a0) (G := fun k R v => impl_coords2_l1s a0 k R v.1 v.2) (x := ([], 0)) (gh := (none, 0, 0)) (fun (v1 : (List (List (List Nat))) × Int) (w1 : Gs) => (⟨19, [], [(3, (Vl (Vs w1))), (6, (Sl (Kl (Kl Kf)) a0)), (7, (Vl (.int .i64 (a0.length : Int)))), (8, (Vl (.int .i64 v1.2)))], [(Rw (Kl (Kl Kf)) 117 (Vs w1) v1.1)]⟩ : St)) (fun (v2 : (List (List (List Nat)))) => Zg E (Exit.exit 0) (fun (w2 : Gs) => (⟨19, [], [(3, (Vl (Vs w2)))], [(Rw (Kl (Kl Kf)) 117 (Vs w2) v2)]⟩ : St))) (fun _ => rfl) (fun _ _ => rfl) ?_ hy1 (tx_to' rfl [0] (sub_cons rfl (sub_cons rfl (sub_cons rfl (sub_cons rfl sub_nil)))) (by decide) (pick_cons rfl pick_nil)) ?_
  · clear hp hy1
    clear v2
    intro k rec1 KY1 ih1
    rintro ⟨x1, x2⟩ g901 y3 hp
    replace hp : impl_coords2_l1s a0 k rec1 x1 x2 = some y3 := hp
    unfold impl_coords2_l1s at hp
    refine cx_seq' fun K9 hK9 => ?_
    refine cx_region' ?_
    refine sx_rd' (rd_bin' rfl rfl eg_int ru_lss) rfl rfl (wt_none' rfl) ?_
    refine sx_nil' ?_
    show TX E K9 _
    refine tx_k' hK9 ?_
    refine cx_seq' fun K10 hK10 => ?_
    refine cx_cond' rfl (fun h3 => ?_) (fun h3 => ?_)
    · replace hp := (br_t h3).symm.trans hp
      refine cx_skip' ?_
      show TX E K10 _
      refine tx_k' hK10 ?_
      refine cx_seq' fun K11 hK11 => ?_
      refine cx_block' ?_
      refine cx_seq' fun K12 hK12 => ?_
      refine cx_region' ?_
      obtain ⟨r10, hr10, hp⟩ := bind_some hp
      refine sx_rd' (rd_at' (K := (Kl (Kl Kf))) rfl rfl hr10 Try.underlying43 info51) rfl rfl (wt_none' rfl) ?_
      refine sx_rd' (rd_load_pt' rfl rfl flat51) rfl rfl (wt_none' rfl) ?_
      refine sx_rd' (rd_assign' rfl) rfl rfl (wt_none' rfl) ?_
      refine sx_nil' ?_
      show TX E K12 _
      refine tx_k' hK12 ?_
      refine cx_region' ?_
      refine sx_rd' (rd_move' rfl) rfl rfl (wt_none' rfl) ?_
      refine sx_rd' (rd_move' rfl) rfl rfl (wt_none' rfl) ?_
      obtain ⟨r14, hr14, hp⟩ := bind_some hp
      refine sx_ox' (ox_calln' (ent_fn' Try.func88 isn88 rfl rfl) (impl_coords1_sim _ hr14 : Go.Sx.Fn Try.prog 88 [(Sl (Kl Kf) r10)] [] (fun x : Gs => (Vl (Vs x))) (fun x => [(Rw (Kl Kf) 140 (Vs x) r14)])) (Hn := fun x : Gs => [(Rw (Kl Kf) 140 (Vs x) r14), (Rw (Kl (Kl Kf)) 117 (Vs g901) x1)]) (fun _ => rfl) rfl rfl) (wt_none' rfl) fun g14 => ?_
      refine tx_fz' (frz_row 0 [(14, (Vl (Vs g14)), (Sl (Kl Kf) r14))] (K := (Kl Kf)) (xs := r14) (by decide) rfl ⟨⟨rfl, frz_it⟩, trivial⟩ (H' := [(Rw (Kl (Kl Kf)) 117 (Vs g901) x1)]) frzH_refl) ?_
      refine sx_ox' (ox_rowlit' (K := (Kl (Kl Kf))) (xs := [r14]) (qs := [(0, [(Sl (Kl Kf) r14)])]) ⟨rfl, ⟨_, rfl, (lv_sl _ _)⟩, trivial⟩ Try.underlying106 info117 rfl rfl rfl rfl rfl (by kernel_rfl) rfl rfl rfl) (wt_none' rfl) fun g15 => ?_
      obtain ⟨r16, hr16, hp⟩ := bind_some hp
      refine sx_ox' (ox_append' (K := (Kl (Kl Kf))) (i := 1) (xs := x1) (ys := ([r14])) rfl rfl rfl (sr_row' (j := 0) rfl rfl rfl Try.underlying106) hr16 Try.underlying106 info117 rfl rfl rfl (H' := [(Rw (Kl (Kl Kf)) 117 (Vs g15) ([r14]))]) rfl) (wt_none' rfl) fun g16 => ?_
      refine sx_rd' (rd_assign' rfl) rfl rfl (wt_none' rfl) ?_
      refine sx_nil' ?_
      show TX E K11 _
      refine tx_k' hK11 ?_
      refine cx_region' ?_
      refine sx_rd' (rd_bin' rfl rfl eg_int ru_add) rfl rfl (wt_none' rfl) ?_
      refine sx_rd' (rd_move' rfl) rfl rfl (wt_none' rfl) ?_
      refine sx_nil' ?_
      show TX E (KY1 _) _
      exact tx_pick' [0] (sub_cons rfl (sub_cons rfl (sub_cons rfl (sub_cons rfl sub_nil)))) (by decide) (pick_cons rfl pick_nil) (ih1 (r16, (iadd .i64 x2 1)) g16 _ hp)
    · replace hp := (br_f h3).symm.trans hp
      refine cx_exit' ?_
      replace hp := Option.some.inj hp
      subst hp
      show TX E (Zg E (Exit.exit 0) _ (Exit.exit 0)) _
      exact tx_zend' g901 rfl [0] (sub_cons rfl sub_nil) (by decide) (pick_cons rfl pick_nil)
  · refine zg_out fun w2 => ?_
    show TX E K3 _
    refine tx_k' hK3 ?_
    refine cx_seq' fun K13 hK13 => ?_
    refine cx_region' ?_
    refine sx_rd' (rd_move' rfl) rfl rfl (wt_none' rfl) ?_
    refine sx_rd' (rd_assign' rfl) rfl rfl (wt_none' rfl) ?_
    refine sx_nil' ?_
    show TX E K13 _
    refine tx_k' hK13 ?_
    refine cx_retc' ?_
    replace hp := Option.some.inj hp
    subst hp
    refine tx_pick' (L' := [(2, (Vl (Vs w2)))]) (H' := [(Rw (Kl (Kl Kf)) 117 (Vs w2) v2)]) [0] (sub_cons rfl sub_nil) (by decide) (pick_cons rfl pick_nil) ?_
    exact tx_ret1' Try.results67 rfl w2 (rv_tmp' rfl) (List.Sublist.refl _)

def gogeom_deflate1_v2_l1s (a1 : List (List Nat)) (a2 : Int) (k : Nat) (rec1 : ((List Nat) × Int) → Option ((Int × Int) ⊕ (List Nat))) (x1 : List Nat) (x2 : Int) : Option ((Int × Int) ⊕ (List Nat)) :=
  br (decide (x2 < (a1.length : Int)))
    ((idx a1 x2) >>= fun r15 =>
    (gogeom_deflate0_v2 k x1 r15 a2) >>= fun r21 =>
    match r21 with
      | (.inl y3) =>
        (some (.inl (y3.1, y3.2)))
      | (.inr y3) =>
        (rec1 (y3, (iadd .i64 x2 1))))
    (some (.inr x1))
def gogeom_deflate1_v2_l1 (a1 : List (List Nat)) (a2 : Int) : Nat → ((List Nat) × Int) → Option ((Int × Int) ⊕ (List Nat))
  | 0, _ => none
  | k + 1, v => gogeom_deflate1_v2_l1s a1 a2 k (gogeom_deflate1_v2_l1 a1 a2 k) v.1 v.2
def gogeom_deflate1_v2 (k : Nat) (a1 : List (List Nat)) (a2 : Int) : Option ((Int × Int) ⊕ (List Nat)) :=
  (gogeom_deflate1_v2_l1 a1 a2 k ([], 0)) >>= fun y5 => match y5 with
    | (.inl v2) =>
      (some (.inl (v2.1, v2.2)))
    | (.inr v3) =>
      (some (.inr v3))
def gogeom_deflate1_v2_r  (a1 : List (List Nat)) (a2 : Int) (out : (Int × Int) ⊕ (List Nat)) (w : Gs) : SV := match out with
  | (.inl y) => (Tu [(Vl (.slice none 0 0)), (If 225 (Ag [(Vl (.int .i64 y.1)), (Vl (.int .i64 y.2))]))])
  | (.inr y) => (Tu [(Vl (Vs w)), (Vl .nilIface)])
def gogeom_deflate1_v2_h  (a1 : List (List Nat)) (a2 : Int) (out : (Int × Int) ⊕ (List Nat)) (w : Gs) : List Res := match out with
  | (.inl y) => []
  | (.inr y) => [(Rw Kf 32 (Vs w) y)]

theorem gogeom_deflate1_v2_sim {k : Nat}  (a1 : List (List Nat)) (a2 : Int) {out : (Int × Int) ⊕ (List Nat)} (hp : gogeom_deflate1_v2 k a1 a2 = some out) : Go.Sx.Fn Try.prog 122 [(Vl (.slice none 0 0)), (Sl (Kl Kf) a1), (Vl (.int .i64 a2))] [] (fun w => gogeom_deflate1_v2_r a1 a2 out w) (fun w => gogeom_deflate1_v2_h a1 a2 out w) := by
  unfold gogeom_deflate1_v2 at hp
  refine fn_of Try.func122 rfl Try.ntmps122 rfl fun E hM => ?_
  refine cx_seq' fun K1 hK1 => ?_
  refine cx_region' ?_
  refine sx_rd' (rd_assign' rfl) rfl rfl (wt_none' rfl) ?_
  refine sx_rd' (rd_assign' rfl) rfl rfl (wt_none' rfl) ?_
  refine sx_nil' ?_
  show TX E K1 _
  refine tx_k' hK1 ?_
  refine cx_seq' fun K2 hK2 => ?_
  refine cx_seq' fun K3 hK3 => ?_
  refine cx_region' ?_
  refine sx_rd' (rd_move' rfl) rfl rfl (wt_none' rfl) ?_
  refine sx_rd' (rd_len' rfl Try.underlying117) rfl rfl (wt_none' rfl) ?_
  refine sx_rd' (rd_move' rfl) rfl rfl (wt_none' rfl) ?_
  refine sx_nil' ?_
  show TX E K3 _
  refine tx_k' hK3 ?_
  refine cx_block' ?_
  obtain ⟨y5, hy1, hp⟩ := bind_some hp
  refine tx_nilrow' Kf 32 ?_
  refine cx_loopg' (F := gogeom_deflate1_v2_l1 a1 a2) (G := fun k R v => gogeom_deflate1_v2_l1s a1 a2 k R v.1 v.2) (x := ([], 0)) (gh := (none, 0, 0)) (fun (v1 : (List Nat) × Int) (w1 : Gs) => (⟨29, [], [(0, (Vl (Vs w1))), (2, (Vl (.int .i64 a2))), (11, (Sl (Kl Kf) a1)), (12, (Vl (.int .i64 (a1.length : Int)))), (13, (Vl (.int .i64 v1.2)))], [(Rw Kf 32 (Vs w1) v1.1)]⟩ : St)) (fun (y : (Int × Int) ⊕ (List Nat)) => match y with | (.inl v2) => Zg E Exit.ret (fun (w2 : Unit) => (⟨29, [], [(6, (Vl (.slice none 0 0))), (7, (If 225 (Ag [(Vl (.int .i64 v2.1)), (Vl (.int .i64 v2.2))])))], []⟩ : St)) | (.inr v3) => Zg E (Exit.exit 0) (fun (w3 : Gs) => (⟨29, [], [(0, (Vl (Vs w3)))], [(Rw Kf 32 (Vs w3) v3)]⟩ : St))) (fun _ => rfl) (fun _ _ => rfl) ?_ hy1 (tx_to' rfl [0] (sub_cons rfl (sub_cons rfl (sub_cons rfl (sub_cons rfl (sub_cons rfl sub_nil))))) (by decide) (pick_cons rfl pick_nil)) ?_
  · clear hp hy1
    clear y5
    intro k rec1 KY1 ih1
    rintro ⟨x1, x2⟩ g901 y5 hp
    replace hp : gogeom_deflate1_v2_l1s a1 a2 k rec1 x1 x2 = some y5 := hp
    unfold gogeom_deflate1_v2_l1s at hp
    refine cx_seq' fun K12 hK12 => ?_
    refine cx_region' ?_
    refine sx_rd' (rd_bin' rfl rfl eg_int ru_lss) rfl rfl (wt_none' rfl) ?_
    refine sx_nil' ?_
    show TX E K12 _
    refine tx_k' hK12 ?_
    refine cx_seq' fun K13 hK13 => ?_
    refine cx_cond' rfl (fun h3 => ?_) (fun h3 => ?_)
    · replace hp := (br_t h3).symm.trans hp
      refine cx_skip' ?_
      show TX E K13 _
      refine tx_k' hK13 ?_
      refine cx_seq' fun K14 hK14 => ?_
      refine cx_block' ?_
      refine cx_seq' fun K15 hK15 => ?_
      refine cx_region' ?_
      obtain ⟨r15, hr15, hp⟩ := bind_some hp
      refine sx_rd' (rd_at' (K := (Kl Kf)) rfl rfl hr15 Try.underlying117 info140) rfl rfl (wt_none' rfl) ?_
      refine sx_rd' (rd_load_pt' rfl rfl flat140) rfl rfl (wt_none' rfl) ?_
      refine sx_rd' (rd_assign' rfl) rfl rfl (wt_none' rfl) ?_
      refine sx_nil' ?_
      show TX E K15 _
      refine tx_k' hK15 ?_
      refine cx_seq' fun K16 hK16 => ?_
      refine cx_region' ?_
      refine sx_rd' (rd_assign' rfl) rfl rfl (wt_none' rfl) ?_
      refine sx_nil' ?_
      show TX E K16 _
      refine tx_k' hK16 ?_
      refine cx_seq' fun K17 hK17 => ?_
      refine cx_region' ?_
      refine sx_rd' (rd_move' rfl) rfl rfl (wt_none' rfl) ?_
      refine sx_rd' (rd_move' rfl) rfl rfl (wt_none' rfl) ?_
      refine sx_rd' (rd_move' rfl) rfl rfl (wt_none' rfl) ?_
      obtain ⟨r21, hr21, hp⟩ := bind_some hp
      rcases r21 with y3 | y3
      · dsimp only at hp
        refine sx_ox' (ox_callg' (ent_fn' Try.func142 isn142 rfl rfl) (gogeom_deflate0_v2_sim _ _ _ hr21 : Go.Sx.Fn Try.prog 142 [(Vl (Vs g901)), (Sl Kf r15), (Vl (.int .i64 a2))] [(Rw Kf 32 (Vs g901) x1)] (fun x : Gs => (Tu [(Vl (.slice none 0 0)), (If 225 (Ag [(Vl (.int .i64 y3.1)), (Vl (.int .i64 y3.2))]))])) (fun x => [])) [0] [] (by decide) (pick_cons rfl pick_nil) pick_nil (Hn := fun x : Gs => []) (fun _ => rfl) rfl rfl) (wt_none' rfl) fun g21 => ?_
        refine sx_rd' (rd_move' rfl) rfl rfl (wt_none' rfl) ?_
        refine sx_rd' (rd_extract' rfl rfl) rfl rfl (wt_none' rfl) ?_
        refine sx_rd' (rd_extract' rfl rfl) rfl rfl (wt_none' rfl) ?_
        refine sx_rd' (rd_assign' rfl) rfl rfl (wt_none' rfl) ?_
        refine sx_rd' (rd_assign' rfl) rfl rfl (wt_none' rfl) ?_
        refine sx_nil' ?_
        show TX E K17 _
        refine tx_k' hK17 ?_
        refine cx_seq' fun K18 hK18 => ?_
        refine cx_region' ?_
        refine sx_rd' (rd_move' rfl) rfl rfl (wt_none' rfl) ?_
        refine sx_rd' (rd_binf' rfl rfl (bf_if (fun _ _ => by kernel_rfl) nil_neq103_if225)) rfl rfl (wt_none' rfl) ?_
        refine sx_nil' ?_
        show TX E K18 _
        refine tx_k' hK18 ?_
        refine cx_cond_t' rfl rfl ?_
        refine cx_seq' fun K19 hK19 => ?_
        refine cx_region' ?_
        refine sx_rd' (rd_move' rfl) rfl rfl (wt_none' rfl) ?_
        refine sx_rd' (rd_assign' rfl) rfl rfl (wt_none' rfl) ?_
        refine sx_rd' (rd_assign' rfl) rfl rfl (wt_none' rfl) ?_
        refine sx_nil' ?_
        show TX E K19 _
        refine tx_k' hK19 ?_
        refine cx_retc' ?_
        replace hp := Option.some.inj hp
        subst hp
        show TX E (Zg E Exit.ret _ Exit.ret) _
        exact tx_zend' () rfl [] (sub_cons rfl (sub_cons rfl sub_nil)) (by decide) pick_nil
      · dsimp only at hp
        refine sx_ox' (ox_callg' (ent_fn' Try.func142 isn142 rfl rfl) (gogeom_deflate0_v2_sim _ _ _ hr21 : Go.Sx.Fn Try.prog 142 [(Vl (Vs g901)), (Sl Kf r15), (Vl (.int .i64 a2))] [(Rw Kf 32 (Vs g901) x1)] (fun x : Gs => (Tu [(Vl (Vs x)), (Vl .nilIface)])) (fun x => [(Rw Kf 32 (Vs x) y3)])) [0] [] (by decide) (pick_cons rfl pick_nil) pick_nil (Hn := fun x : Gs => [(Rw Kf 32 (Vs x) y3)]) (fun _ => rfl) rfl rfl) (wt_none' rfl) fun g21 => ?_
        refine sx_rd' (rd_move' rfl) rfl rfl (wt_none' rfl) ?_
        refine sx_rd' (rd_extract' rfl rfl) rfl rfl (wt_none' rfl) ?_
        refine sx_rd' (rd_extract' rfl rfl) rfl rfl (wt_none' rfl) ?_
        refine sx_rd' (rd_assign' rfl) rfl rfl (wt_none' rfl) ?_
        refine sx_rd' (rd_assign' rfl) rfl rfl (wt_none' rfl) ?_
        refine sx_nil' ?_
        show TX E K17 _
        refine tx_k' hK17 ?_
        refine cx_seq' fun K18 hK18 => ?_
        refine cx_region' ?_
        refine sx_rd' (rd_move' rfl) rfl rfl (wt_none' rfl) ?_
        refine sx_rd' (rd_binf' rfl rfl (bf_vl (fun _ => by kernel_rfl) nil_neq103_nilif)) rfl rfl (wt_none' rfl) ?_
        refine sx_nil' ?_
        show TX E K18 _
        refine tx_k' hK18 ?_
        refine cx_cond_f' rfl rfl ?_
        refine cx_skip' ?_
        show TX E K14 _
        refine tx_k' hK14 ?_
        refine cx_region' ?_
        refine sx_rd' (rd_bin' rfl rfl eg_int ru_add) rfl rfl (wt_none' rfl) ?_
        refine sx_rd' (rd_move' rfl) rfl rfl (wt_none' rfl) ?_
        refine sx_nil' ?_
        show TX E (KY1 _) _
        exact tx_pick' [0] (sub_cons rfl (sub_cons rfl (sub_cons rfl (sub_cons rfl (sub_cons rfl sub_nil))))) (by decide) (pick_cons rfl pick_nil) (ih1 (y3, (iadd .i64 x2 1)) g21 _ hp)
    · replace hp := (br_f h3).symm.trans hp
      refine cx_exit' ?_
      replace hp := Option.some.inj hp
      subst hp
      show TX E (Zg E (Exit.exit 0) _ (Exit.exit 0)) _
      exact tx_zend' g901 rfl [0] (sub_cons rfl sub_nil) (by decide) (pick_cons rfl pick_nil)
  · rcases y5 with v2 | v3
    · dsimp only at hp
      refine zg_out fun w2 => ?_
      replace hp := Option.some.inj hp
      subst hp
      refine tx_pick' (L' := [(6, (Vl (.slice none 0 0))), (7, (If 225 (Ag [(Vl (.int .i64 v2.1)), (Vl (.int .i64 v2.2))])))]) (H' := []) [] (sub_cons rfl (sub_cons rfl sub_nil)) (by decide) pick_nil ?_
      exact tx_ret2' Try.results122 rfl (none, 0, 0) (rv_tmp' rfl) (rv_tmp' rfl) rfl (List.Sublist.refl _)
    · dsimp only at hp
      refine zg_out fun w3 => ?_
      show TX E K2 _
      refine tx_k' hK2 ?_
      refine cx_seq' fun K20 hK20 => ?_
      refine cx_region' ?_
      refine sx_rd' (rd_move' rfl) rfl rfl (wt_none' rfl) ?_
      refine sx_rd' (rd_assign' rfl) rfl rfl (wt_none' rfl) ?_
      refine sx_rd' (rd_assign' rfl) rfl rfl (wt_none' rfl) ?_
      refine sx_nil' ?_
      show TX E K20 _
      refine tx_k' hK20 ?_
      refine cx_retc' ?_
      replace hp := Option.some.inj hp
      subst hp
      refine tx_pick' (L' := [(6, (Vl (Vs w3))), (7, (Vl .nilIface))]) (H' := [(Rw Kf 32 (Vs w3) v3)]) [0] (sub_cons rfl (sub_cons rfl sub_nil)) (by decide) (pick_cons rfl pick_nil) ?_
      exact tx_ret2' Try.results122 rfl w3 (rv_tmp' rfl) (rv_tmp' rfl) rfl (List.Sublist.refl _)

def gogeom_deflate1_v3_l1s (a1 : List (List Nat)) (a2 : Int) (k : Nat) (rec1 : ((List Nat) × Int) → Option ((Int × Int) ⊕ (List Nat))) (x1 : List Nat) (x2 : Int) : Option ((Int × Int) ⊕ (List Nat)) :=
  br (decide (x2 < (a1.length : Int)))
    ((idx a1 x2) >>= fun r15 =>
    (gogeom_deflate0_v2 k x1 r15 a2) >>= fun r21 =>
    match r21 with
      | (.inl y3) =>
        (some (.inl (y3.1, y3.2)))
      | (.inr y3) =>
        (rec1 (y3, (iadd .i64 x2 1))))
    (some (.inr x1))
def gogeom_deflate1_v3_l1 (a1 : List (List Nat)) (a2 : Int) : Nat → ((List Nat) × Int) → Option ((Int × Int) ⊕ (List Nat))
  | 0, _ => none
  | k + 1, v => gogeom_deflate1_v3_l1s a1 a2 k (gogeom_deflate1_v3_l1 a1 a2 k) v.1 v.2
def gogeom_deflate1_v3 (k : Nat) (a0 : List Nat) (a1 : List (List Nat)) (a2 : Int) : Option ((Int × Int) ⊕ (List Nat)) :=
  (gogeom_deflate1_v3_l1 a1 a2 k (a0, 0)) >>= fun y5 => match y5 with
    | (.inl v2) =>
      (some (.inl (v2.1, v2.2)))
    | (.inr v3) =>
      (some (.inr v3))
def gogeom_deflate1_v3_r (wa0 : Gs) (a0 : List Nat) (a1 : List (List Nat)) (a2 : Int) (out : (Int × Int) ⊕ (List Nat)) (w : Gs) : SV := match out with
  | (.inl y) => (Tu [(Vl (.slice none 0 0)), (If 225 (Ag [(Vl (.int .i64 y.1)), (Vl (.int .i64 y.2))]))])
  | (.inr y) => (Tu [(Vl (Vs w)), (Vl .nilIface)])
def gogeom_deflate1_v3_h (wa0 : Gs) (a0 : List Nat) (a1 : List (List Nat)) (a2 : Int) (out : (Int × Int) ⊕ (List Nat)) (w : Gs) : List Res := match out with
  | (.inl y) => []
  | (.inr y) => [(Rw Kf 32 (Vs w) y)]

theorem gogeom_deflate1_v3_sim {k : Nat} {wa0 : Gs} (a0 : List Nat) (a1 : List (List Nat)) (a2 : Int) {out : (Int × Int) ⊕ (List Nat)} (hp : gogeom_deflate1_v3 k a0 a1 a2 = some out) : Go.Sx.Fn Try.prog 122 [(Vl (Vs wa0)), (Sl (Kl Kf) a1), (Vl (.int .i64 a2))] [(Rw Kf 32 (Vs wa0) a0)] (fun w => gogeom_deflate1_v3_r wa0 a0 a1 a2 out w) (fun w => gogeom_deflate1_v3_h wa0 a0 a1 a2 out w) := by
  unfold gogeom_deflate1_v3 at hp
  refine fn_of Try.func122 rfl Try.ntmps122 rfl fun E hM => ?_
  refine cx_seq' fun K1 hK1 => ?_
  refine cx_region' ?_
  refine sx_rd' (rd_assign' rfl) rfl rfl (wt_none' rfl) ?_
  refine sx_rd' (rd_assign' rfl) rfl rfl (wt_none' rfl) ?_
  refine sx_nil' ?_
  show TX E K1 _
  refine tx_k' hK1 ?_
  refine cx_seq' fun K2 hK2 => ?_
  refine cx_seq' fun K3 hK3 => ?_
  refine cx_region' ?_
  refine sx_rd' (rd_move' rfl) rfl rfl (wt_none' rfl) ?_
  refine sx_rd' (rd_len' rfl Try.underlying117) rfl rfl (wt_none' rfl) ?_
  refine sx_rd' (rd_move' rfl) rfl rfl (wt_none' rfl) ?_
  refine sx_nil' ?_
  show TX E K3 _
  refine tx_k' hK3 ?_
  refine cx_block' ?_
  obtain ⟨y5, hy1, hp⟩ := bind_some hp
  refine cx_loopg' (F := gogeom_deflate1_v3_l1 a1 a2) (G := fun k R v => gogeom_deflate1_v3_l1s a1 a2 k R v.1 v.2) (x := (a0, 0)) (gh := wa0) (fun (v1 : (List Nat) × Int) (w1 : Gs) => (⟨29, [], [(0, (Vl (Vs w1))), (2, (Vl (.int .i64 a2))), (11, (Sl (Kl Kf) a1)), (12, (Vl (.int .i64 (a1.length : Int)))), (13, (Vl (.int .i64 v1.2)))], [(Rw Kf 32 (Vs w1) v1.1)]⟩ : St)) (fun (y : (Int × Int) ⊕ (List Nat)) => match y with | (.inl v2) => Zg E Exit.ret (fun (w2 : Unit) => (⟨29, [], [(6, (Vl (.slice none 0 0))), (7, (If 225 (Ag [(Vl (.int .i64 v2.1)), (Vl (.int .i64 v2.2))])))], []⟩ : St)) | (.inr v3) => Zg E (Exit.exit 0) (fun (w3 : Gs) => (⟨29, [], [(0, (Vl (Vs w3)))], [(Rw Kf 32 (Vs w3) v3)]⟩ : St))) (fun _ => rfl) (fun _ _ => rfl) ?_ hy1 (tx_to' rfl [0] (sub_cons rfl (sub_cons rfl (sub_cons rfl (sub_cons rfl (sub_cons rfl sub_nil))))) (by decide) (pick_cons rfl pick_nil)) ?_
  · clear hp hy1
    clear y5
    intro k rec1 KY1 ih1
    rintro ⟨x1, x2⟩ g901 y5 hp
    replace hp : gogeom_deflate1_v3_l1s a1 a2 k rec1 x1 x2 = some y5 := hp
    unfold gogeom_deflate1_v3_l1s at hp
    refine cx_seq' fun K12 hK12 => ?_
    refine cx_region' ?_
    refine sx_rd' (rd_bin' rfl rfl eg_int ru_lss) rfl rfl (wt_none' rfl) ?_
    refine sx_nil' ?_
    show TX E K12 _
    refine tx_k' hK12 ?_
    refine cx_seq' fun K13 hK13 => ?_
    refine cx_cond' rfl (fun h3 => ?_) (fun h3 => ?_)
    · replace hp := (br_t h3).symm.trans hp
      refine cx_skip' ?_
      show TX E K13 _
      refine tx_k' hK13 ?_
      refine cx_seq' fun K14 hK14 => ?_
      refine cx_block' ?_
      refine cx_seq' fun K15 hK15 => ?_
      refine cx_region' ?_
      obtain ⟨r15, hr15, hp⟩ := bind_some hp
      refine sx_rd' (rd_at' (K := (Kl Kf)) rfl rfl hr15 Try.underlying117 info140) rfl rfl (wt_none' rfl) ?_
      refine sx_rd' (rd_load_pt' rfl rfl flat140) rfl rfl (wt_none' rfl) ?_
      refine sx_rd' (rd_assign' rfl) rfl rfl (wt_none' rfl) ?_
      refine sx_nil' ?_
      show TX E K15 _
      refine tx_k' hK15 ?_
      refine cx_seq' fun K16 hK16 => ?_
      refine cx_region' ?_
      refine sx_rd' (rd_assign' rfl) rfl rfl (wt_none' rfl) ?_
      refine sx_nil' ?_
      show TX E K16 _
      refine tx_k' hK16 ?_
      refine cx_seq' fun K17 hK17 => ?_
      refine cx_region' ?_
      refine sx_rd' (rd_move' rfl) rfl rfl (wt_none' rfl) ?_
      refine sx_rd' (rd_move' rfl) rfl rfl (wt_none' rfl) ?_
      refine sx_rd' (rd_move' rfl) rfl rfl (wt_none' rfl) ?_
      obtain ⟨r21, hr21, hp⟩ := bind_some hp
      rcases r21 with y3 | y3
      · dsimp only at hp
        refine sx_ox' (ox_callg' (ent_fn' Try.func142 isn142 rfl rfl) (gogeom_deflate0_v2_sim _ _ _ hr21 : Go.Sx.Fn Try.prog 142 [(Vl (Vs g901)), (Sl Kf r15), (Vl (.int .i64 a2))] [(Rw Kf 32 (Vs g901) x1)] (fun x : Gs => (Tu [(Vl (.slice none 0 0)), (If 225 (Ag [(Vl (.int .i64 y3.1)), (Vl (.int .i64 y3.2))]))])) (fun x => [])) [0] [] (by decide) (pick_cons rfl pick_nil) pick_nil (Hn := fun x : Gs => []) (fun _ => rfl) rfl rfl) (wt_none' rfl) fun g21 => ?_
        refine sx_rd' (rd_move' rfl) rfl rfl (wt_none' rfl) ?_
        refine sx_rd' (rd_extract' rfl rfl) rfl rfl (wt_none' rfl) ?_
        refine sx_rd' (rd_extract' rfl rfl) rfl rfl (wt_none' rfl) ?_
        refine sx_rd' (rd_assign' rfl) rfl rfl (wt_none' rfl) ?_
        refine sx_rd' (rd_assign' rfl) rfl rfl (wt_none' rfl) ?_
        refine sx_nil' ?_
        show TX E K17 _
        refine tx_k' hK17 ?_
        refine cx_seq' fun K18 hK18 => ?_
        refine cx_region' ?_
        refine sx_rd' (rd_move' rfl) rfl rfl (wt_none' rfl) ?_
        refine sx_rd' (rd_binf' rfl rfl (bf_if (fun _ _ => by kernel_rfl) nil_neq103_if225)) rfl rfl (wt_none' rfl) ?_
        refine sx_nil' ?_
        show TX E K18 _
        refine tx_k' hK18 ?_
        refine cx_cond_t' rfl rfl ?_
        refine cx_seq' fun K19 hK19 => ?_
        refine cx_region' ?_
        refine sx_rd' (rd_move' rfl) rfl rfl (wt_none' rfl) ?_
        refine sx_rd' (rd_assign' rfl) rfl rfl (wt_none' rfl) ?_
        refine sx_rd' (rd_assign' rfl) rfl rfl (wt_none' rfl) ?_
        refine sx_nil' ?_
        show TX E K19 _
        refine tx_k' hK19 ?_
        refine cx_retc' ?_
        replace hp := Option.some.inj hp
        subst hp
        show TX E (Zg E Exit.ret _ Exit.ret) _
        exact tx_zend' () rfl [] (sub_cons rfl (sub_cons rfl sub_nil)) (by decide) pick_nil
      · dsimp only at hp
        refine sx_ox' (ox_callg' (ent_fn' Try.func142 isn142 rfl rfl) (gogeom_deflate0_v2_sim _ _ _ hr21 : Go.Sx.Fn Try.prog 142 [(Vl (Vs g901)), (Sl Kf r15), (Vl (.int .i64 a2))] [(Rw Kf 32 (Vs g901) x1)] (fun x : Gs => (Tu [(Vl (Vs x)), (Vl .nilIface)])) (fun x => [(Rw Kf 32 (Vs x) y3)])) [0] [] (by decide) (pick_cons rfl pick_nil) pick_nil (Hn := fun x : Gs => [(Rw Kf 32 (Vs x) y3)]) (fun _ => rfl) rfl rfl) (wt_none' rfl) fun g21 => ?_
        refine sx_rd' (rd_move' rfl) rfl rfl (wt_none' rfl) ?_
        refine sx_rd' (rd_extract' rfl rfl) rfl rfl (wt_none' rfl) ?_
        refine sx_rd' (rd_extract' rfl rfl) rfl rfl (wt_none' rfl) ?_
        refine sx_rd' (rd_assign' rfl) rfl rfl (wt_none' rfl) ?_
        refine sx_rd' (rd_assign' rfl) rfl rfl (wt_none' rfl) ?_
        refine sx_nil' ?_
        show TX E K17 _
        refine tx_k' hK17 ?_
        refine cx_seq' fun K18 hK18 => ?_
        refine cx_region' ?_
        refine sx_rd' (rd_move' rfl) rfl rfl (wt_none' rfl) ?_
        refine sx_rd' (rd_binf' rfl rfl (bf_vl (fun _ => by kernel_rfl) nil_neq103_nilif)) rfl rfl (wt_none' rfl) ?_
        refine sx_nil' ?_
        show TX E K18 _
        refine tx_k' hK18 ?_
        refine cx_cond_f' rfl rfl ?_
        refine cx_skip' ?_
        show TX E K14 _
        refine tx_k' hK14 ?_
        refine cx_region' ?_
        refine sx_rd' (rd_bin' rfl rfl eg_int ru_add) rfl rfl (wt_none' rfl) ?_
        refine sx_rd' (rd_move' rfl) rfl rfl (wt_none' rfl) ?_
        refine sx_nil' ?_
        show TX E (KY1 _) _
        exact tx_pick' [0] (sub_cons rfl (sub_cons rfl (sub_cons rfl (sub_cons rfl (sub_cons rfl sub_nil))))) (by decide) (pick_cons rfl pick_nil) (ih1 (y3, (iadd .i64 x2 1)) g21 _ hp)
    · replace hp := (br_f h3).symm.trans hp
      refine cx_exit' ?_
      replace hp := Option.some.inj hp
      subst hp
      show TX E (Zg E (Exit.exit 0) _ (Exit.exit 0)) _
      exact tx_zend' g901 rfl [0] (sub_cons rfl sub_nil) (by decide) (pick_cons rfl pick_nil)
  · rcases y5 with v2 | v3
    · dsimp only at hp
      refine zg_out fun w2 => ?_
      replace hp := Option.some.inj hp
      subst hp
      refine tx_pick' (L' := [(6, (Vl (.slice none 0 0))), (7, (If 225 (Ag [(Vl (.int .i64 v2.1)), (Vl (.int .i64 v2.2))])))]) (H' := []) [] (sub_cons rfl (sub_cons rfl sub_nil)) (by decide) pick_nil ?_
      exact tx_ret2' Try.results122 rfl (none, 0, 0) (rv_tmp' rfl) (rv_tmp' rfl) rfl (List.Sublist.refl _)
    · dsimp only at hp
      refine zg_out fun w3 => ?_
      show TX E K2 _
      refine tx_k' hK2 ?_
      refine cx_seq' fun K20 hK20 => ?_
      refine cx_region' ?_
      refine sx_rd' (rd_move' rfl) rfl rfl (wt_none' rfl) ?_
      refine sx_rd' (rd_assign' rfl) rfl rfl (wt_none' rfl) ?_
      refine sx_rd' (rd_assign' rfl) rfl rfl (wt_none' rfl) ?_
      refine sx_nil' ?_
      show TX E K20 _
      refine tx_k' hK20 ?_
      refine cx_retc' ?_
      replace hp := Option.some.inj hp
      subst hp
      refine tx_pick' (L' := [(6, (Vl (Vs w3))), (7, (Vl .nilIface))]) (H' := [(Rw Kf 32 (Vs w3) v3)]) [0] (sub_cons rfl (sub_cons rfl sub_nil)) (by decide) (pick_cons rfl pick_nil) ?_
      exact tx_ret2' Try.results122 rfl w3 (rv_tmp' rfl) (rv_tmp' rfl) rfl (List.Sublist.refl _)

def gogeom_deflate2_l1s (a2 : List (List (List Nat))) (a3 : Int) (k : Nat) (rec1 : ((List Nat) × (List Int) × Int) → Option ((Int × Int) ⊕ ((List Nat) × (List Int)))) (x1 : List Nat) (x2 : List Int) (x3 : Int) : Option ((Int × Int) ⊕ ((List Nat) × (List Int))) :=
  br (decide (x3 < (a2.length : Int)))
    ((idx a2 x3) >>= fun r18 =>
    (gogeom_deflate1_v3 k x1 r18 a3) >>= fun r24 =>
    match r24 with
      | (.inl y3) =>
        (some (.inl (y3.1, y3.2)))
      | (.inr y3) =>
        ((apd 8 x2 ([(y3.length : Int)])) >>= fun r34 =>
        rec1 (y3, r34, (iadd .i64 x3 1))))
    (some (.inr (x1, x2)))
def gogeom_deflate2_l1 (a2 : List (List (List Nat))) (a3 : Int) : Nat → ((List Nat) × (List Int) × Int) → Option ((Int × Int) ⊕ ((List Nat) × (List Int)))
  | 0, _ => none
  | k + 1, v => gogeom_deflate2_l1s a2 a3 k (gogeom_deflate2_l1 a2 a3 k) v.1 v.2.1 v.2.2
def gogeom_deflate2 (k : Nat) (a2 : List (List (List Nat))) (a3 : Int) : Option (((List (List (List Nat))) × Int × Int) ⊕ ((List (List (List Nat))) × (List Nat) × (List Int))) :=
  (gogeom_deflate2_l1 a2 a3 k ([], [], 0)) >>= fun y5 => match y5 with
    | (.inl v2) =>
      (some (.inl (a2, v2.1, v2.2)))
    | (.inr v3) =>
      (some (.inr (a2, v3.1, v3.2)))
def gogeom_deflate2_r (wa2 : Gs) (a2 : List (List (List Nat))) (a3 : Int) (out : ((List (List (List Nat))) × Int × Int) ⊕ ((List (List (List Nat))) × (List Nat) × (List Int))) (w : Gs × Gs) : SV := match out with
  | (.inl y) => (Tu [(Vl (.slice none 0 0)), (Vl (.slice none 0 0)), (If 225 (Ag [(Vl (.int .i64 y.2.1)), (Vl (.int .i64 y.2.2))]))])
  | (.inr y) => (Tu [(Vl (Vs w.1)), (Vl (Vs w.2)), (Vl .nilIface)])
def gogeom_deflate2_h (wa2 : Gs) (a2 : List (List (List Nat))) (a3 : Int) (out : ((List (List (List Nat))) × Int × Int) ⊕ ((List (List (List Nat))) × (List Nat) × (List Int))) (w : Gs × Gs) : List Res := match out with
  | (.inl y) => [(Rw (Kl (Kl Kf)) 117 (Vs wa2) y.1)]
  | (.inr y) => [(Rw (Kl (Kl Kf)) 117 (Vs wa2) y.1), (Rw Kf 32 (Vs w.1) y.2.1), (Rw (Ki .i64) 3 (Vs w.2) y.2.2)]

theorem gogeom_deflate2_sim {k : Nat} {wa2 : Gs} (a2 : List (List (List Nat))) (a3 : Int) {out : ((List (List (List Nat))) × Int × Int) ⊕ ((List (List (List Nat))) × (List Nat) × (List Int))} (hp : gogeom_deflate2 k a2 a3 = some out) : Go.Sx.Fn Try.prog 114 [(Vl (.slice none 0 0)), (Vl (.slice none 0 0)), (Vl (Vs wa2)), (Vl (.int .i64 a3))] [(Rw (Kl (Kl Kf)) 117 (Vs wa2) a2)] (fun w => gogeom_deflate2_r wa2 a2 a3 out w) (fun w => gogeom_deflate2_h wa2 a2 a3 out w) := by
  unfold gogeom_deflate2 at hp
  refine fn_of Try.func114 rfl Try.ntmps114 rfl fun E hM => ?_
  refine cx_seq' fun K1 hK1 => ?_
  refine cx_region' ?_
  refine sx_rd' (rd_assign' rfl) rfl rfl (wt_none' rfl) ?_
  refine sx_rd' (rd_assign' rfl) rfl rfl (wt_none' rfl) ?_
  refine sx_rd' (rd_assign' rfl) rfl rfl (wt_none' rfl) ?_
  refine sx_nil' ?_
  show TX E K1 _
  refine tx_k' hK1 ?_
  refine cx_seq' fun K2 hK2 => ?_
  refine cx_seq' fun K3 hK3 => ?_
  refine cx_region' ?_
  refine sx_rd' (rd_move' rfl) rfl rfl (wt_none' rfl) ?_
  refine sx_rd' (rd_lenr' (i := 0) rfl rfl rfl Try.underlying106) rfl rfl (wt_none' rfl) ?_
  refine sx_rd' (rd_move' rfl) rfl rfl (wt_none' rfl) ?_
  refine sx_nil' ?_
  show TX E K3 _
  refine tx_k' hK3 ?_
  refine cx_block' ?_
  obtain ⟨y5, hy1, hp⟩ := bind_some hp
  refine tx_nilrow' Kf 32 ?_
  refine tx_nilrow' (Ki .i64) 3 ?_
  refine cx_loopg' (F := gogeom_deflate2_l1 a2 a3) (G := fun k R v => gogeom_deflate2_l1s a2 a3 k R v.1 v.2.1 v.2.2) (x := ([], [], 0)) (gh := ((none, 0, 0), (none, 0, 0))) (fun (v1 : (List Nat) × (List Int) × Int) (w1 : Gs × Gs) => (⟨38, [], [(0, (Vl (Vs w1.1))), (1, (Vl (Vs w1.2))), (3, (Vl (.int .i64 a3))), (14, (Vl (Vs wa2))), (15, (Vl (.int .i64 (a2.length : Int)))), (16, (Vl (.int .i64 v1.2.2)))], [(Rw Kf 32 (Vs w1.1) v1.1), (Rw (Ki .i64) 3 (Vs w1.2) v1.2.1), (Rw (Kl (Kl Kf)) 117 (Vs wa2) a2)]⟩ : St)) (fun (y : (Int × Int) ⊕ ((List Nat) × (List Int))) => match y with | (.inl v2) => Zg E Exit.ret (fun (w2 : Unit) => (⟨38, [], [(8, (Vl (.slice none 0 0))), (9, (Vl (.slice none 0 0))), (10, (If 225 (Ag [(Vl (.int .i64 v2.1)), (Vl (.int .i64 v2.2))])))], [(Rw (Kl (Kl Kf)) 117 (Vs wa2) a2)]⟩ : St)) | (.inr v3) => Zg E (Exit.exit 0) (fun (w3 : Gs × Gs) => (⟨38, [], [(0, (Vl (Vs w3.1))), (1, (Vl (Vs w3.2)))], [(Rw Kf 32 (Vs w3.1) v3.1), (Rw (Ki .i64) 3 (Vs w3.2) v3.2), (Rw (Kl (Kl Kf)) 117 (Vs wa2) a2)]⟩ : St))) (fun _ => rfl) (fun _ _ => rfl) ?_ hy1 (tx_to' rfl [1, 0, 2] (sub_cons rfl (sub_cons rfl (sub_cons rfl (sub_cons rfl (sub_cons rfl (sub_cons rfl sub_nil)))))) (by decide) (pick_cons rfl (pick_cons rfl (pick_cons rfl pick_nil)))) ?_
  · clear hp hy1
    clear y5
    intro k rec1 KY1 ih1
    rintro ⟨x1, x2, x3⟩ ⟨g901, g902⟩ y5 hp
    replace hp : gogeom_deflate2_l1s a2 a3 k rec1 x1 x2 x3 = some y5 := hp
    unfold gogeom_deflate2_l1s at hp
    refine cx_seq' fun K13 hK13 => ?_
    refine cx_region' ?_
    refine sx_rd' (rd_bin' rfl rfl eg_int ru_lss) rfl rfl (wt_none' rfl) ?_
    refine sx_nil' ?_
    show TX E K13 _
    refine tx_k' hK13 ?_
    refine cx_seq' fun K14 hK14 => ?_
    refine cx_cond' rfl (fun h3 => ?_) (fun h3 => ?_)
    · replace hp := (br_t h3).symm.trans hp
      refine cx_skip' ?_
      show TX E K14 _
      refine tx_k' hK14 ?_
      refine cx_seq' fun K15 hK15 => ?_
      refine cx_block' ?_
      refine cx_seq' fun K16 hK16 => ?_
      refine cx_region' ?_
      obtain ⟨r18, hr18, hp⟩ := bind_some hp
      refine sx_rd' (rd_atr' (m := 2) rfl rfl rfl rfl hr18 Try.underlying106 info117) rfl rfl (wt_none' rfl) ?_
      refine sx_rd' (rd_loadr' rfl (m := 2) (i := x3) (j := 0) rfl rfl hr18 rfl rfl flat117) rfl rfl (wt_none' rfl) ?_
      refine sx_rd' (rd_assign' rfl) rfl rfl (wt_none' rfl) ?_
      refine sx_nil' ?_
      show TX E K16 _
      refine tx_k' hK16 ?_
      refine cx_seq' fun K17 hK17 => ?_
      refine cx_region' ?_
      refine sx_rd' (rd_assign' rfl) rfl rfl (wt_none' rfl) ?_
      refine sx_nil' ?_
      show TX E K17 _
      refine tx_k' hK17 ?_
      refine cx_seq' fun K18 hK18 => ?_
      refine cx_region' ?_
      refine sx_rd' (rd_move' rfl) rfl rfl (wt_none' rfl) ?_
      refine sx_rd' (rd_move' rfl) rfl rfl (wt_none' rfl) ?_
      refine sx_rd' (rd_move' rfl) rfl rfl (wt_none' rfl) ?_
      obtain ⟨r24, hr24, hp⟩ := bind_some hp
      rcases r24 with y3 | y3
      · dsimp only at hp
        refine sx_ox' (ox_callg' (ent_fn' Try.func122 isn122 rfl rfl) (gogeom_deflate1_v3_sim _ _ _ hr24 : Go.Sx.Fn Try.prog 122 [(Vl (Vs g901)), (Sl (Kl Kf) r18), (Vl (.int .i64 a3))] [(Rw Kf 32 (Vs g901) x1)] (fun x : Gs => (Tu [(Vl (.slice none 0 0)), (If 225 (Ag [(Vl (.int .i64 y3.1)), (Vl (.int .i64 y3.2))]))])) (fun x => [])) [0] [1, 2] (by decide) (pick_cons rfl pick_nil) (pick_cons rfl (pick_cons rfl pick_nil)) (Hn := fun x : Gs => [(Rw (Ki .i64) 3 (Vs g902) x2), (Rw (Kl (Kl Kf)) 117 (Vs wa2) a2)]) (fun _ => rfl) rfl rfl) (wt_none' rfl) fun g24 => ?_
        refine sx_rd' (rd_move' rfl) rfl rfl (wt_none' rfl) ?_
        refine sx_rd' (rd_extract' rfl rfl) rfl rfl (wt_none' rfl) ?_
        refine sx_rd' (rd_extract' rfl rfl) rfl rfl (wt_none' rfl) ?_
        refine sx_rd' (rd_assign' rfl) rfl rfl (wt_none' rfl) ?_
        refine sx_rd' (rd_assign' rfl) rfl rfl (wt_none' rfl) ?_
        refine sx_nil' ?_
        show TX E K18 _
        refine tx_k' hK18 ?_
        refine cx_seq' fun K19 hK19 => ?_
        refine cx_seq' fun K20 hK20 => ?_
        refine cx_region' ?_
        refine sx_rd' (rd_move' rfl) rfl rfl (wt_none' rfl) ?_
        refine sx_rd' (rd_binf' rfl rfl (bf_if (fun _ _ => by kernel_rfl) nil_neq103_if225)) rfl rfl (wt_none' rfl) ?_
        refine sx_nil' ?_
        show TX E K20 _
        refine tx_k' hK20 ?_
        refine cx_cond_t' rfl rfl ?_
        refine cx_seq' fun K21 hK21 => ?_
        refine cx_region' ?_
        refine sx_rd' (rd_move' rfl) rfl rfl (wt_none' rfl) ?_
        refine sx_rd' (rd_assign' rfl) rfl rfl (wt_none' rfl) ?_
        refine sx_rd' (rd_assign' rfl) rfl rfl (wt_none' rfl) ?_
        refine sx_rd' (rd_assign' rfl) rfl rfl (wt_none' rfl) ?_
        refine sx_nil' ?_
        show TX E K21 _
        refine tx_k' hK21 ?_
        refine cx_retc' ?_
        replace hp := Option.some.inj hp
        subst hp
        show TX E (Zg E Exit.ret _ Exit.ret) _
        exact tx_zend' () rfl [1] (sub_cons rfl (sub_cons rfl (sub_cons rfl sub_nil))) (by decide) (pick_cons rfl pick_nil)
      · dsimp only at hp
        refine sx_ox' (ox_callg' (ent_fn' Try.func122 isn122 rfl rfl) (gogeom_deflate1_v3_sim _ _ _ hr24 : Go.Sx.Fn Try.prog 122 [(Vl (Vs g901)), (Sl (Kl Kf) r18), (Vl (.int .i64 a3))] [(Rw Kf 32 (Vs g901) x1)] (fun x : Gs => (Tu [(Vl (Vs x)), (Vl .nilIface)])) (fun x => [(Rw Kf 32 (Vs x) y3)])) [0] [1, 2] (by decide) (pick_cons rfl pick_nil) (pick_cons rfl (pick_cons rfl pick_nil)) (Hn := fun x : Gs => [(Rw Kf 32 (Vs x) y3), (Rw (Ki .i64) 3 (Vs g902) x2), (Rw (Kl (Kl Kf)) 117 (Vs wa2) a2)]) (fun _ => rfl) rfl rfl) (wt_none' rfl) fun g24 => ?_
        refine sx_rd' (rd_move' rfl) rfl rfl (wt_none' rfl) ?_
        refine sx_rd' (rd_extract' rfl rfl) rfl rfl (wt_none' rfl) ?_
        refine sx_rd' (rd_extract' rfl rfl) rfl rfl (wt_none' rfl) ?_
        refine sx_rd' (rd_assign' rfl) rfl rfl (wt_none' rfl) ?_
        refine sx_rd' (rd_assign' rfl) rfl rfl (wt_none' rfl) ?_
        refine sx_nil' ?_
        show TX E K18 _
        refine tx_k' hK18 ?_
        refine cx_seq' fun K19 hK19 => ?_
        refine cx_seq' fun K20 hK20 => ?_
        refine cx_region' ?_
        refine sx_rd' (rd_move' rfl) rfl rfl (wt_none' rfl) ?_
        refine sx_rd' (rd_binf' rfl rfl (bf_vl (fun _ => by kernel_rfl) nil_neq103_nilif)) rfl rfl (wt_none' rfl) ?_
        refine sx_nil' ?_
        show TX E K20 _
        refine tx_k' hK20 ?_
        refine cx_cond_f' rfl rfl ?_
        refine cx_skip' ?_
        show TX E K19 _
        refine tx_k' hK19 ?_
        refine cx_region' ?_
        refine sx_rd' (rd_move' rfl) rfl rfl (wt_none' rfl) ?_
        refine sx_rd' (rd_move' rfl) rfl rfl (wt_none' rfl) ?_
        refine sx_rd' (rd_lenr' (i := 0) rfl rfl rfl Try.underlying22) rfl rfl (wt_none' rfl) ?_
        refine sx_ox' (ox_rowlit' (K := (Ki .i64)) (xs := [(y3.length : Int)]) (qs := [(0, [(Vl (.int .i64 (y3.length : Int)))])]) ⟨rfl, ⟨_, rfl, (lv_vl rfl rfl)⟩, trivial⟩ Try.underlying23 info3 rfl rfl rfl rfl rfl (by kernel_rfl) rfl rfl rfl) (wt_none' rfl) fun g33 => ?_
        obtain ⟨r34, hr34, hp⟩ := bind_some hp
        refine sx_ox' (ox_append' (K := (Ki .i64)) (i := 2) (xs := x2) (ys := ([(y3.length : Int)])) rfl rfl rfl (sr_row' (j := 0) rfl rfl rfl Try.underlying23) hr34 Try.underlying23 info3 rfl rfl rfl (H' := [(Rw (Ki .i64) 3 (Vs g33) ([(y3.length : Int)])), (Rw Kf 32 (Vs g24) y3), (Rw (Kl (Kl Kf)) 117 (Vs wa2) a2)]) rfl) (wt_none' rfl) fun g34 => ?_
        refine sx_rd' (rd_assign' rfl) rfl rfl (wt_none' rfl) ?_
        refine sx_nil' ?_
        show TX E K15 _
        refine tx_k' hK15 ?_
        refine cx_region' ?_
        refine sx_rd' (rd_bin' rfl rfl eg_int ru_add) rfl rfl (wt_none' rfl) ?_
        refine sx_rd' (rd_move' rfl) rfl rfl (wt_none' rfl) ?_
        refine sx_nil' ?_
        show TX E (KY1 _) _
        exact tx_pick' [2, 0, 3] (sub_cons rfl (sub_cons rfl (sub_cons rfl (sub_cons rfl (sub_cons rfl (sub_cons rfl sub_nil)))))) (by decide) (pick_cons rfl (pick_cons rfl (pick_cons rfl pick_nil))) (ih1 (y3, r34, (iadd .i64 x3 1)) (g24, g34) _ hp)
    · replace hp := (br_f h3).symm.trans hp
      refine cx_exit' ?_
      replace hp := Option.some.inj hp
      subst hp
      show TX E (Zg E (Exit.exit 0) _ (Exit.exit 0)) _
      exact tx_zend' (g901, g902) rfl [0, 1, 2] (sub_cons rfl (sub_cons rfl sub_nil)) (by decide) (pick_cons rfl (pick_cons rfl (pick_cons rfl pick_nil)))
  · rcases y5 with v2 | v3
    · dsimp only at hp
      refine zg_out fun w2 => ?_
      replace hp := Option.some.inj hp
      subst hp
      refine tx_pick' (L' := [(8, (Vl (.slice none 0 0))), (9, (Vl (.slice none 0 0))), (10, (If 225 (Ag [(Vl (.int .i64 v2.1)), (Vl (.int .i64 v2.2))])))]) (H' := [(Rw (Kl (Kl Kf)) 117 (Vs wa2) a2)]) [0] (sub_cons rfl (sub_cons rfl (sub_cons rfl sub_nil))) (by decide) (pick_cons rfl pick_nil) ?_
      exact tx_ret3' Try.results114 rfl ((none, 0, 0), (none, 0, 0)) (rv_tmp' rfl) (rv_tmp' rfl) (rv_tmp' rfl) rfl (List.Sublist.refl _)
    · dsimp only at hp
      refine zg_out fun w3 => ?_
      show TX E K2 _
      refine tx_k' hK2 ?_
      refine cx_seq' fun K22 hK22 => ?_
      refine cx_region' ?_
      refine sx_rd' (rd_move' rfl) rfl rfl (wt_none' rfl) ?_
      refine sx_rd' (rd_move' rfl) rfl rfl (wt_none' rfl) ?_
      refine sx_rd' (rd_assign' rfl) rfl rfl (wt_none' rfl) ?_
      refine sx_rd' (rd_assign' rfl) rfl rfl (wt_none' rfl) ?_
      refine sx_rd' (rd_assign' rfl) rfl rfl (wt_none' rfl) ?_
      refine sx_nil' ?_
      show TX E K22 _
      refine tx_k' hK22 ?_
      refine cx_retc' ?_
      replace hp := Option.some.inj hp
      subst hp
      refine tx_pick' (L' := [(8, (Vl (Vs w3.1))), (9, (Vl (Vs w3.2))), (10, (Vl .nilIface))]) (H' := [(Rw (Kl (Kl Kf)) 117 (Vs wa2) a2), (Rw Kf 32 (Vs w3.1) v3.1), (Rw (Ki .i64) 3 (Vs w3.2) v3.2)]) [2, 0, 1] (sub_cons rfl (sub_cons rfl (sub_cons rfl sub_nil))) (by decide) (pick_cons rfl (pick_cons rfl (pick_cons rfl pick_nil))) ?_
      exact tx_ret3' Try.results114 rfl (w3.1, w3.2) (rv_tmp' rfl) (rv_tmp' rfl) (rv_tmp' rfl) rfl (List.Sublist.refl _)

def gogeom_DoorDeflate2 (k : Nat) (a0 : List (List (List Nat))) (a1 : Int) : Option (((List (List (List Nat))) × Int × Int) ⊕ ((List (List (List Nat))) × (List Nat) × (List Int))) :=
  (gogeom_deflate2 k a0 a1) >>= fun r9 =>
  match r9 with
    | (.inl y1) =>
      (some (.inl (y1.1, y1.2.1, y1.2.2)))
    | (.inr y1) =>
      (some (.inr (y1.1, y1.2.1, y1.2.2)))
def gogeom_DoorDeflate2_r (wa0 : Gs) (a0 : List (List (List Nat))) (a1 : Int) (out : ((List (List (List Nat))) × Int × Int) ⊕ ((List (List (List Nat))) × (List Nat) × (List Int))) (w : Unit) : SV := match out with
  | (.inl y) => (Tu [(Vl (.slice none 0 0)), (Vl (.slice none 0 0)), (If 225 (Ag [(Vl (.int .i64 y.2.1)), (Vl (.int .i64 y.2.2))]))])
  | (.inr y) => (Tu [(Sl Kf y.2.1), (Sl (Ki .i64) y.2.2), (Vl .nilIface)])
def gogeom_DoorDeflate2_h (wa0 : Gs) (a0 : List (List (List Nat))) (a1 : Int) (out : ((List (List (List Nat))) × Int × Int) ⊕ ((List (List (List Nat))) × (List Nat) × (List Int))) (w : Unit) : List Res := match out with
  | (.inl y) => [(Rw (Kl (Kl Kf)) 117 (Vs wa0) y.1)]
  | (.inr y) => [(Rw (Kl (Kl Kf)) 117 (Vs wa0) y.1)]

theorem gogeom_DoorDeflate2_sim {k : Nat} {wa0 : Gs} (a0 : List (List (List Nat))) (a1 : Int) {out : ((List (List (List Nat))) × Int × Int) ⊕ ((List (List (List Nat))) × (List Nat) × (List Int))} (hp : gogeom_DoorDeflate2 k a0 a1 = some out) : Go.Sx.Fn Try.prog 66 [(Vl (Vs wa0)), (Vl (.int .i64 a1))] [(Rw (Kl (Kl Kf)) 117 (Vs wa0) a0)] (fun w => gogeom_DoorDeflate2_r wa0 a0 a1 out w) (fun w => gogeom_DoorDeflate2_h wa0 a0 a1 out w) := by
  unfold gogeom_DoorDeflate2 at hp
  refine fn_of Try.func66 rfl Try.ntmps66 rfl fun E hM => ?_
  refine cx_seq' fun K1 hK1 => ?_
  refine cx_region' ?_
  refine sx_rd' (rd_assign' rfl) rfl rfl (wt_none' rfl) ?_
  refine sx_rd' (rd_assign' rfl) rfl rfl (wt_none' rfl) ?_
  refine sx_rd' (rd_assign' rfl) rfl rfl (wt_none' rfl) ?_
  refine sx_nil' ?_
  show TX E K1 _
  refine tx_k' hK1 ?_
  refine cx_seq' fun K2 hK2 => ?_
  refine cx_region' ?_
  refine sx_rd' (rd_move' rfl) rfl rfl (wt_none' rfl) ?_
  refine sx_rd' (rd_move' rfl) rfl rfl (wt_none' rfl) ?_
  obtain ⟨r9, hr9, hp⟩ := bind_some hp
  rcases r9 with y1 | y1
  · dsimp only at hp
    refine sx_ox' (ox_callg' (ent_fn' Try.func114 isn114 rfl rfl) (gogeom_deflate2_sim _ _ hr9 : Go.Sx.Fn Try.prog 114 [(Vl (.slice none 0 0)), (Vl (.slice none 0 0)), (Vl (Vs wa0)), (Vl (.int .i64 a1))] [(Rw (Kl (Kl Kf)) 117 (Vs wa0) a0)] (fun x : Gs × Gs => (Tu [(Vl (.slice none 0 0)), (Vl (.slice none 0 0)), (If 225 (Ag [(Vl (.int .i64 y1.2.1)), (Vl (.int .i64 y1.2.2))]))])) (fun x => [(Rw (Kl (Kl Kf)) 117 (Vs wa0) y1.1)])) [0] [] (by decide) (pick_cons rfl pick_nil) pick_nil (Hn := fun x : Gs × Gs => [(Rw (Kl (Kl Kf)) 117 (Vs wa0) y1.1)]) (fun _ => rfl) rfl rfl) (wt_none' rfl) fun ⟨g9, gz1⟩ => ?_
    refine sx_rd' (rd_extract' rfl rfl) rfl rfl (wt_none' rfl) ?_
    refine sx_rd' (rd_extract' rfl rfl) rfl rfl (wt_none' rfl) ?_
    refine sx_rd' (rd_extract' rfl rfl) rfl rfl (wt_none' rfl) ?_
    refine sx_rd' (rd_assign' rfl) rfl rfl (wt_none' rfl) ?_
    refine sx_rd' (rd_assign' rfl) rfl rfl (wt_none' rfl) ?_
    refine sx_rd' (rd_assign' rfl) rfl rfl (wt_none' rfl) ?_
    refine sx_nil' ?_
    show TX E K2 _
    refine tx_k' hK2 ?_
    refine cx_retc' ?_
    replace hp := Option.some.inj hp
    subst hp
    refine tx_pick' (L' := [(4, (Vl (.slice none 0 0))), (5, (Vl (.slice none 0 0))), (6, (If 225 (Ag [(Vl (.int .i64 y1.2.1)), (Vl (.int .i64 y1.2.2))])))]) (H' := [(Rw (Kl (Kl Kf)) 117 (Vs wa0) y1.1)]) [0] (sub_cons rfl (sub_cons rfl (sub_cons rfl sub_nil))) (by decide) (pick_cons rfl pick_nil) ?_
    exact tx_ret3' Try.results66 rfl () (rv_tmp' rfl) (rv_tmp' rfl) (rv_tmp' rfl) rfl (List.Sublist.refl _)
  · dsimp only at hp
    refine sx_ox' (ox_callg' (ent_fn' Try.func114 isn114 rfl rfl) (gogeom_deflate2_sim _ _ hr9 : Go.Sx.Fn Try.prog 114 [(Vl (.slice none 0 0)), (Vl (.slice none 0 0)), (Vl (Vs wa0)), (Vl (.int .i64 a1))] [(Rw (Kl (Kl Kf)) 117 (Vs wa0) a0)] (fun x : Gs × Gs => (Tu [(Vl (Vs x.1)), (Vl (Vs x.2)), (Vl .nilIface)])) (fun x => [(Rw (Kl (Kl Kf)) 117 (Vs wa0) y1.1), (Rw Kf 32 (Vs x.1) y1.2.1), (Rw (Ki .i64) 3 (Vs x.2) y1.2.2)])) [0] [] (by decide) (pick_cons rfl pick_nil) pick_nil (Hn := fun x : Gs × Gs => [(Rw (Kl (Kl Kf)) 117 (Vs wa0) y1.1), (Rw Kf 32 (Vs x.1) y1.2.1), (Rw (Ki .i64) 3 (Vs x.2) y1.2.2)]) (fun _ => rfl) rfl rfl) (wt_none' rfl) fun ⟨g9, gz1⟩ => ?_
    refine sx_rd' (rd_extract' rfl rfl) rfl rfl (wt_none' rfl) ?_
    refine sx_rd' (rd_extract' rfl rfl) rfl rfl (wt_none' rfl) ?_
    refine sx_rd' (rd_extract' rfl rfl) rfl rfl (wt_none' rfl) ?_
    refine sx_rd' (rd_assign' rfl) rfl rfl (wt_none' rfl) ?_
    refine sx_rd' (rd_assign' rfl) rfl rfl (wt_none' rfl) ?_
    refine sx_rd' (rd_assign' rfl) rfl rfl (wt_none' rfl) ?_
    refine sx_nil' ?_
    show TX E K2 _
    refine tx_k' hK2 ?_
    refine cx_retc' ?_
    replace hp := Option.some.inj hp
    subst hp
    refine tx_fz' (frz_row 1 [(4, (Vl (Vs g9)), (Sl Kf y1.2.1)), (10, (Vl (Vs g9)), (Sl Kf y1.2.1))] (K := Kf) (xs := y1.2.1) (by decide) rfl ⟨⟨rfl, frz_it⟩, ⟨rfl, frz_it⟩, trivial⟩ (H' := [(Rw (Kl (Kl Kf)) 117 (Vs wa0) y1.1), (Rw (Ki .i64) 3 (Vs gz1) y1.2.2)]) frzH_refl) ?_
    refine tx_fz' (frz_row 1 [(5, (Vl (Vs gz1)), (Sl (Ki .i64) y1.2.2)), (11, (Vl (Vs gz1)), (Sl (Ki .i64) y1.2.2))] (K := (Ki .i64)) (xs := y1.2.2) (by decide) rfl ⟨⟨rfl, frz_it⟩, ⟨rfl, frz_it⟩, trivial⟩ (H' := [(Rw (Kl (Kl Kf)) 117 (Vs wa0) y1.1)]) frzH_refl) ?_
    refine tx_pick' (L' := [(4, (Sl Kf y1.2.1)), (5, (Sl (Ki .i64) y1.2.2)), (6, (Vl .nilIface))]) (H' := [(Rw (Kl (Kl Kf)) 117 (Vs wa0) y1.1)]) [0] (sub_cons rfl (sub_cons rfl (sub_cons rfl sub_nil))) (by decide) (pick_cons rfl pick_nil) ?_
    exact tx_ret3' Try.results66 rfl () (rv_tmp' rfl) (rv_tmp' rfl) (rv_tmp' rfl) rfl (List.Sublist.refl _)

def impl_ints (k : Nat)  : Option ((List Int)) :=
  (apd 8 [] []) >>= fun r4 =>
  some r4

theorem impl_ints_sim {k : Nat}   {out : (List Int)} (hp : impl_ints k = some out) : Go.Sx.Fn Try.prog 68 [(Vl (.slice none 0 0))] [] (fun w : Unit => (Sl (Ki .i64) out)) (fun w => []) := by
  unfold impl_ints at hp
  refine fn_of Try.func68 rfl Try.ntmps68 rfl fun E hM => ?_
  refine cx_seq' fun K1 hK1 => ?_
  refine cx_region' ?_
  refine sx_rd' (rd_assign' rfl) rfl rfl (wt_none' rfl) ?_
  refine sx_nil' ?_
  show TX E K1 _
  refine tx_k' hK1 ?_
  refine cx_seq' fun K2 hK2 => ?_
  refine cx_region' ?_
  refine sx_rd' (rd_move' rfl) rfl rfl (wt_none' rfl) ?_
  refine tx_nilrow' (Ki .i64) 3 ?_
  obtain ⟨r4, hr4, hp⟩ := bind_some hp
  refine sx_ox' (ox_append' (K := (Ki .i64)) (i := 0) (xs := []) (ys := []) rfl rfl rfl (sr_nil' rfl Try.underlying23) hr4 Try.underlying23 info3 rfl rfl rfl (H' := []) rfl) (wt_none' rfl) fun g4 => ?_
  refine sx_rd' (rd_assign' rfl) rfl rfl (wt_none' rfl) ?_
  refine sx_nil' ?_
  show TX E K2 _
  refine tx_k' hK2 ?_
  refine cx_retc' ?_
  replace hp := Option.some.inj hp
  subst hp
  refine tx_fz' (frz_row 0 [(2, (Vl (Vs g4)), (Sl (Ki .i64) r4)), (4, (Vl (Vs g4)), (Sl (Ki .i64) r4))] (K := (Ki .i64)) (xs := r4) (by decide) rfl ⟨⟨rfl, frz_it⟩, ⟨rfl, frz_it⟩, trivial⟩ (H' := []) frzH_refl) ?_
  refine tx_pick' (L' := [(2, (Sl (Ki .i64) r4))]) (H' := []) [] (sub_cons rfl sub_nil) (by decide) pick_nil ?_
  exact tx_ret1' Try.results68 rfl () (rv_tmp' rfl) (List.Sublist.refl _)

def impl_ints_v2 (k : Nat) (a0 : List Int) : Option ((List Int)) :=
  (apd 8 [] a0) >>= fun r4 =>
  some r4

theorem impl_ints_v2_sim {k : Nat}  (a0 : List Int) {out : (List Int)} (hp : impl_ints_v2 k a0 = some out) : Go.Sx.Fn Try.prog 68 [(Sl (Ki .i64) a0)] [] (fun w : Unit => (Sl (Ki .i64) out)) (fun w => []) := by
  unfold impl_ints_v2 at hp
  refine fn_of Try.func68 rfl Try.ntmps68 rfl fun E hM => ?_
  refine cx_seq' fun K1 hK1 => ?_
  refine cx_region' ?_
  refine sx_rd' (rd_assign' rfl) rfl rfl (wt_none' rfl) ?_
  refine sx_nil' ?_
  show TX E K1 _
  refine tx_k' hK1 ?_
  refine cx_seq' fun K2 hK2 => ?_
  refine cx_region' ?_
  refine sx_rd' (rd_move' rfl) rfl rfl (wt_none' rfl) ?_
  refine tx_nilrow' (Ki .i64) 3 ?_
  obtain ⟨r4, hr4, hp⟩ := bind_some hp
  refine sx_ox' (ox_append' (K := (Ki .i64)) (i := 0) (xs := []) (ys := a0) rfl rfl rfl (sr_sl' rfl Try.underlying23) hr4 Try.underlying23 info3 rfl rfl rfl (H' := []) rfl) (wt_none' rfl) fun g4 => ?_
  refine sx_rd' (rd_assign' rfl) rfl rfl (wt_none' rfl) ?_
  refine sx_nil' ?_
  show TX E K2 _
  refine tx_k' hK2 ?_
  refine cx_retc' ?_
  replace hp := Option.some.inj hp
  subst hp
  refine tx_fz' (frz_row 0 [(2, (Vl (Vs g4)), (Sl (Ki .i64) r4)), (4, (Vl (Vs g4)), (Sl (Ki .i64) r4))] (K := (Ki .i64)) (xs := r4) (by decide) rfl ⟨⟨rfl, frz_it⟩, ⟨rfl, frz_it⟩, trivial⟩ (H' := []) frzH_refl) ?_
  refine tx_pick' (L' := [(2, (Sl (Ki .i64) r4))]) (H' := []) [] (sub_cons rfl sub_nil) (by decide) pick_nil ?_
  exact tx_ret1' Try.results68 rfl () (rv_tmp' rfl) (List.Sublist.refl _)

def impl_Deflate2 (k : Nat) (a0 : List (List (List Nat))) (a1 : Int) : Option ((List Nat) × (List Int) × Bool) :=
  (impl_coords2 k a0) >>= fun r13 =>
  (gogeom_DoorDeflate2 k r13 a1) >>= fun r15 =>
  match r15 with
    | (.inl y2) =>
      ((impl_floats_v2 k) >>= fun r20 =>
      (impl_ints k) >>= fun r22 =>
      some (r20, r22, false))
    | (.inr y2) =>
      ((impl_floats k y2.2.1) >>= fun r20 =>
      (impl_ints_v2 k y2.2.2) >>= fun r22 =>
      some (r20, r22, true))

theorem impl_Deflate2_sim {k : Nat}  (a0 : List (List (List Nat))) (a1 : Int) {out : (List Nat) × (List Int) × Bool} (hp : impl_Deflate2 k a0 a1 = some out) : Go.Sx.Fn Try.prog 25 [(Sl (Kl (Kl Kf)) a0), (Vl (.int .i64 a1))] [] (fun w : Unit => (Tu [(Sl Kf out.1), (Sl (Ki .i64) out.2.1), (Vl (.bool out.2.2))])) (fun w => []) := by
  unfold impl_Deflate2 at hp
  refine fnD_of Try.func25 rfl Try.ntmps25 rfl fun E hM => ?_
  refine cx_seq' fun K1 hK1 => ?_
  refine cx_region' ?_
  refine sx_ox' (ox_alloc' info22 rfl rfl rfl rfl (l := [(Vl (.slice none 0 0))]) rfl) (wt_none' rfl) fun q4 => ?_
  refine sx_ox' (ox_alloc' info23 rfl rfl rfl rfl (l := [(Vl (.slice none 0 0))]) rfl) (wt_none' rfl) fun q5 => ?_
  refine sx_ox' (ox_alloc' info4 rfl rfl rfl rfl (l := [(Vl (.bool false))]) rfl) (wt_none' rfl) fun q6 => ?_
  refine sx_nil' ?_
  show TX E K1 _
  refine tx_k' hK1 ?_
  refine cx_seq' fun K2 hK2 => ?_
  refine cx_region' ?_
  refine sx_rd' (rd_mkfunc' (us := [.pointer (some q4), .pointer (some q5), .pointer (some q6)]) rfl) rfl rfl (wt_none' rfl) ?_
  refine sx_ox' (ox_defer' rfl rfl) (wt_none' rfl) fun _ => ?_
  refine sx_nil' ?_
  show TX E K2 _
  refine tx_k' hK2 ?_
  refine cx_seq' fun K3 hK3 => ?_
  refine cx_region' ?_
  refine sx_rd' (rd_move' rfl) rfl rfl (wt_none' rfl) ?_
  obtain ⟨r13, hr13, hp⟩ := bind_some hp
  refine sx_ox' (ox_calln' (ent_fn' Try.func67 isn67 rfl rfl) (impl_coords2_sim _ hr13 : Go.Sx.Fn Try.prog 67 [(Sl (Kl (Kl Kf)) a0)] [] (fun x : Gs => (Vl (Vs x))) (fun x => [(Rw (Kl (Kl Kf)) 117 (Vs x) r13)])) (Hn := fun x : Gs => [(Rw (Kl (Kl Kf)) 117 (Vs x) r13), ⟨.pointer (some q6), [(Vl (.bool false))], 4, none⟩, ⟨.pointer (some q5), [(Vl (.slice none 0 0))], 23, none⟩, ⟨.pointer (some q4), [(Vl (.slice none 0 0))], 22, none⟩]) (fun _ => rfl) rfl rfl) (wt_none' rfl) fun g13 => ?_
  refine sx_rd' (rd_move' rfl) rfl rfl (wt_none' rfl) ?_
  obtain ⟨r15, hr15, hp⟩ := bind_some hp
  rcases r15 with y2 | y2
  · dsimp only at hp
    refine sx_ox' (ox_callg' (ent_fn' Try.func66 isn66 rfl rfl) (gogeom_DoorDeflate2_sim _ _ hr15 : Go.Sx.Fn Try.prog 66 [(Vl (Vs g13)), (Vl (.int .i64 a1))] [(Rw (Kl (Kl Kf)) 117 (Vs g13) r13)] (fun x : Unit => (Tu [(Vl (.slice none 0 0)), (Vl (.slice none 0 0)), (If 225 (Ag [(Vl (.int .i64 y2.2.1)), (Vl (.int .i64 y2.2.2))]))])) (fun x => [(Rw (Kl (Kl Kf)) 117 (Vs g13) y2.1)])) [0] [1, 2, 3] (by decide) (pick_cons rfl pick_nil) (pick_cons rfl (pick_cons rfl (pick_cons rfl pick_nil))) (Hn := fun x : Unit => [(Rw (Kl (Kl Kf)) 117 (Vs g13) y2.1), ⟨.pointer (some q6), [(Vl (.bool false))], 4, none⟩, ⟨.pointer (some q5), [(Vl (.slice none 0 0))], 23, none⟩, ⟨.pointer (some q4), [(Vl (.slice none 0 0))], 22, none⟩]) (fun _ => rfl) rfl rfl) (wt_none' rfl) fun ⟨⟩ => ?_
    refine sx_rd' (rd_move' rfl) rfl rfl (wt_none' rfl) ?_
    refine sx_rd' (rd_extract' rfl rfl) rfl rfl (wt_none' rfl) ?_
    refine sx_rd' (rd_extract' rfl rfl) rfl rfl (wt_none' rfl) ?_
    refine sx_rd' (rd_extract' rfl rfl) rfl rfl (wt_none' rfl) ?_
    refine sx_rd' (rd_assign' rfl) rfl rfl (wt_none' rfl) ?_
    refine sx_rd' (rd_assign' rfl) rfl rfl (wt_none' rfl) ?_
    refine sx_rd' (rd_assign' rfl) rfl rfl (wt_none' rfl) ?_
    refine sx_nil' ?_
    show TX E K3 _
    refine tx_k' hK3 ?_
    refine cx_seq' fun K4 hK4 => ?_
    refine cx_plana' [] [(6, 1), (7, 1), (8, 1)] [(0, 1), (2, 1), (4, 2)] 6 #[true, false, true, false, true, false, false, false, false] mixed (by kernel_rfl) ?_
    refine px_rd' rfl (rd_move' rfl) rfl rfl (wt_none' rfl) ?_
    refine px_rd' rfl (rd_move' rfl) rfl rfl (wt_none' rfl) ?_
    refine px_rb' rfl (rb_move' rfl) rfl rfl (wt_none' rfl) ?_
    refine px_nil' ?_
    show AX E _ _ _ _ _ _ _ _
    obtain ⟨r20, hr20, hp⟩ := bind_some hp
    obtain ⟨r22, hr22, hp⟩ := bind_some hp
    refine ax_node (f' := 0) #[true, true, true, true, true, true, true, true, true] (fun (v10 : Addr × Addr × Addr) => (⟨25, [⟨.fn (.func 65) ⟨[.pointer (some q4), .pointer (some q5), .pointer (some q6)]⟩, #[]⟩], [(4, (Vl (.pointer (some v10.1)))), (5, (Vl (.pointer (some v10.2.1)))), (6, (Vl (.pointer (some v10.2.2))))], [⟨.pointer (some v10.1), [(Sl Kf r20)], 22, none⟩, ⟨.pointer (some v10.2.1), [(Sl (Ki .i64) r22)], 23, none⟩, ⟨.pointer (some v10.2.2), [(Vl (.bool false))], 4, none⟩]⟩ : St)) ?_ ?_
    · rintro ⟨q9028, q9029, q9030⟩
      refine ax_nil (by kernel_rfl) ?_
      show TX E K4 _
      refine tx_k' hK4 ?_
      refine cx_retc' ?_
      replace hp := Option.some.inj hp
      subst hp
      refine tx_leave' (.inl rfl) rfl idle65 rfl Try.func65 isn65 rfl ?_
      refine tx_pick' (L' := [(4, (Vl (.pointer (some q9028)))), (5, (Vl (.pointer (some q9029)))), (6, (Vl (.pointer (some q9030))))]) (H' := [⟨.pointer (some q9028), [(Sl Kf r20)], 22, none⟩, ⟨.pointer (some q9029), [(Sl (Ki .i64) r22)], 23, none⟩, ⟨.pointer (some q9030), [(Vl (.bool false))], 4, none⟩]) [0, 1, 2] (sub_cons rfl (sub_cons rfl (sub_cons rfl sub_nil))) (by decide) (pick_cons rfl (pick_cons rfl (pick_cons rfl pick_nil))) ?_
      exact tx_ret3' Try.results25 rfl () (rv_cell' (i := 0) (o := 0) rfl ⟨rfl, rfl, rfl, rfl⟩ rfl flat22) (rv_cell' (i := 1) (o := 0) rfl ⟨rfl, rfl, rfl, rfl⟩ rfl flat23) (rv_cell' (i := 2) (o := 0) rfl ⟨rfl, rfl, rfl, rfl⟩ rfl flat4) rfl (List.nil_sublist _)
    intro hN11
    refine ax_node (f' := 1) #[true, true, true, true, true, true, true, true, false] (fun (v9 : Addr × Addr × Addr) => (⟨25, [⟨.fn (.func 65) ⟨[.pointer (some q4), .pointer (some q5), .pointer (some q6)]⟩, #[]⟩], [(4, (Vl (.pointer (some v9.1)))), (5, (Vl (.pointer (some v9.2.1)))), (6, (Vl (.pointer (some v9.2.2)))), (24, (Vl (.bool false)))], [⟨.pointer (some v9.1), [(Sl Kf r20)], 22, none⟩, ⟨.pointer (some v9.2.1), [(Sl (Ki .i64) r22)], 23, none⟩, ⟨.pointer (some v9.2.2), [(Vl (.bool false))], 4, none⟩]⟩ : St)) ?_ ?_
    · rintro ⟨q9025, q9026, q9027⟩
      refine ax_all (i := 8) (is := []) (by kernel_rfl) (all_cons ?_ all_nil)
      · refine nx_oxv (last := #[true, true, true, true, true, true, true, true, true]) rfl (oxv_store (i := 2) (o := 0) rfl rfl (lv_vl rfl rfl) ⟨rfl, rfl, rfl, rfl⟩ rfl info4 rfl (H' := [⟨.pointer (some q9025), [(Sl Kf r20)], 22, none⟩, ⟨.pointer (some q9026), [(Sl (Ki .i64) r22)], 23, none⟩, ⟨.pointer (some q9027), [(Vl (.bool false))], 4, none⟩]) rfl) rfl rfl bo_nil (wt_none' rfl) rfl fun _ => ?_
        exact tx_pick' [0, 1, 2] (sub_cons rfl (sub_cons rfl (sub_cons rfl sub_nil))) (by decide) (pick_cons rfl (pick_cons rfl (pick_cons rfl pick_nil))) (hN11 (q9025, q9026, q9027))
    intro hN10
    refine ax_node (f' := 2) #[true, true, true, true, true, true, true, false, false] (fun (v7 : Addr × Addr × Addr) => (⟨25, [⟨.fn (.func 65) ⟨[.pointer (some q4), .pointer (some q5), .pointer (some q6)]⟩, #[]⟩], [(4, (Vl (.pointer (some v7.1)))), (5, (Vl (.pointer (some v7.2.1)))), (6, (Vl (.pointer (some v7.2.2)))), (22, (Sl (Ki .i64) r22)), (24, (Vl (.bool false)))], [⟨.pointer (some v7.1), [(Sl Kf r20)], 22, none⟩, ⟨.pointer (some v7.2.1), [(Vl (.slice none 0 0))], 23, none⟩, ⟨.pointer (some v7.2.2), [(Vl (.bool false))], 4, none⟩]⟩ : St)) ?_ ?_
    · rintro ⟨q9019, q9020, q9021⟩
      refine ax_all (i := 7) (is := []) (by kernel_rfl) (all_cons ?_ all_nil)
      · refine nx_oxv (last := #[true, true, true, true, true, true, true, true, false]) rfl (oxv_store (i := 1) (o := 0) rfl rfl (lv_sl _ _) ⟨rfl, rfl, rfl, rfl⟩ rfl info23 rfl (H' := [⟨.pointer (some q9019), [(Sl Kf r20)], 22, none⟩, ⟨.pointer (some q9020), [(Sl (Ki .i64) r22)], 23, none⟩, ⟨.pointer (some q9021), [(Vl (.bool false))], 4, none⟩]) rfl) rfl rfl bo_nil (wt_none' rfl) rfl fun _ => ?_
        exact tx_pick' [0, 1, 2] (sub_cons rfl (sub_cons rfl (sub_cons rfl (sub_cons rfl sub_nil)))) (by decide) (pick_cons rfl (pick_cons rfl (pick_cons rfl pick_nil))) (hN10 (q9019, q9020, q9021))
    intro hN8
    refine ax_node (f' := 2) #[true, true, true, true, true, false, true, true, false] (fun (v8 : Addr × Addr × Addr) => (⟨25, [⟨.fn (.func 65) ⟨[.pointer (some q4), .pointer (some q5), .pointer (some q6)]⟩, #[]⟩], [(4, (Vl (.pointer (some v8.1)))), (5, (Vl (.pointer (some v8.2.1)))), (6, (Vl (.pointer (some v8.2.2)))), (23, (If 225 (Ag [(Vl (.int .i64 y2.2.1)), (Vl (.int .i64 y2.2.2))])))], [⟨.pointer (some v8.1), [(Sl Kf r20)], 22, none⟩, ⟨.pointer (some v8.2.1), [(Sl (Ki .i64) r22)], 23, none⟩, ⟨.pointer (some v8.2.2), [(Vl (.bool false))], 4, none⟩]⟩ : St)) ?_ ?_
    · rintro ⟨q9022, q9023, q9024⟩
      refine ax_rd (ix := 5) (last := #[true, true, true, true, true, true, true, true, false]) (by kernel_rfl) rfl (rd_binf' rfl rfl (bf_if (fun _ _ => by kernel_rfl) nil_eql103_if225)) rfl rfl (wt_none' rfl) rfl ?_
      exact tx_pick' [0, 1, 2] (sub_cons rfl (sub_cons rfl (sub_cons rfl (sub_cons rfl sub_nil)))) (by decide) (pick_cons rfl (pick_cons rfl (pick_cons rfl pick_nil))) (hN10 (q9022, q9023, q9024))
    intro hN9
    refine ax_node (f' := 3) #[true, true, true, true, true, true, false, false, false] (fun (v5 : Addr × Addr × Addr) => (⟨25, [⟨.fn (.func 65) ⟨[.pointer (some q4), .pointer (some q5), .pointer (some q6)]⟩, #[]⟩], [(4, (Vl (.pointer (some v5.1)))), (5, (Vl (.pointer (some v5.2.1)))), (6, (Vl (.pointer (some v5.2.2)))), (20, (Sl Kf r20)), (22, (Sl (Ki .i64) r22)), (24, (Vl (.bool false)))], [⟨.pointer (some v5.1), [(Vl (.slice none 0 0))], 22, none⟩, ⟨.pointer (some v5.2.1), [(Vl (.slice none 0 0))], 23, none⟩, ⟨.pointer (some v5.2.2), [(Vl (.bool false))], 4, none⟩]⟩ : St)) ?_ ?_
    · rintro ⟨q9013, q9014, q9015⟩
      refine ax_all (i := 6) (is := []) (by kernel_rfl) (all_cons ?_ all_nil)
      · refine nx_oxv (last := #[true, true, true, true, true, true, true, false, false]) rfl (oxv_store (i := 0) (o := 0) rfl rfl (lv_sl _ _) ⟨rfl, rfl, rfl, rfl⟩ rfl info22 rfl (H' := [⟨.pointer (some q9013), [(Sl Kf r20)], 22, none⟩, ⟨.pointer (some q9014), [(Vl (.slice none 0 0))], 23, none⟩, ⟨.pointer (some q9015), [(Vl (.bool false))], 4, none⟩]) rfl) rfl rfl bo_nil (wt_none' rfl) rfl fun _ => ?_
        exact tx_pick' [0, 1, 2] (sub_cons rfl (sub_cons rfl (sub_cons rfl (sub_cons rfl (sub_cons rfl sub_nil))))) (by decide) (pick_cons rfl (pick_cons rfl (pick_cons rfl pick_nil))) (hN8 (q9013, q9014, q9015))
    intro hN6
    refine ax_node (f' := 3) #[true, true, true, true, true, false, true, false, false] (fun (v6 : Addr × Addr × Addr) => (⟨25, [⟨.fn (.func 65) ⟨[.pointer (some q4), .pointer (some q5), .pointer (some q6)]⟩, #[]⟩], [(4, (Vl (.pointer (some v6.1)))), (5, (Vl (.pointer (some v6.2.1)))), (6, (Vl (.pointer (some v6.2.2)))), (22, (Sl (Ki .i64) r22)), (23, (If 225 (Ag [(Vl (.int .i64 y2.2.1)), (Vl (.int .i64 y2.2.2))])))], [⟨.pointer (some v6.1), [(Sl Kf r20)], 22, none⟩, ⟨.pointer (some v6.2.1), [(Vl (.slice none 0 0))], 23, none⟩, ⟨.pointer (some v6.2.2), [(Vl (.bool false))], 4, none⟩]⟩ : St)) ?_ ?_
    · rintro ⟨q9016, q9017, q9018⟩
      refine ax_all (i := 5) (is := [7]) (by kernel_rfl) (all_cons ?_ (all_cons ?_ all_nil))
      · refine nx_rd (last := #[true, true, true, true, true, true, true, false, false]) rfl (rd_binf' rfl rfl (bf_if (fun _ _ => by kernel_rfl) nil_eql103_if225)) rfl rfl (wt_none' rfl) rfl ?_
        exact tx_pick' [0, 1, 2] (sub_cons rfl (sub_cons rfl (sub_cons rfl (sub_cons rfl (sub_cons rfl sub_nil))))) (by decide) (pick_cons rfl (pick_cons rfl (pick_cons rfl pick_nil))) (hN8 (q9016, q9017, q9018))
      · refine nx_oxv (last := #[true, true, true, true, true, false, true, true, false]) rfl (oxv_store (i := 1) (o := 0) rfl rfl (lv_sl _ _) ⟨rfl, rfl, rfl, rfl⟩ rfl info23 rfl (H' := [⟨.pointer (some q9016), [(Sl Kf r20)], 22, none⟩, ⟨.pointer (some q9017), [(Sl (Ki .i64) r22)], 23, none⟩, ⟨.pointer (some q9018), [(Vl (.bool false))], 4, none⟩]) rfl) rfl rfl bo_nil (wt_none' rfl) rfl fun _ => ?_
        exact tx_pick' [0, 1, 2] (sub_cons rfl (sub_cons rfl (sub_cons rfl (sub_cons rfl sub_nil)))) (by decide) (pick_cons rfl (pick_cons rfl (pick_cons rfl pick_nil))) (hN9 (q9016, q9017, q9018))
    intro hN7
    refine ax_node (f' := 4) #[true, true, true, true, true, false, false, false, false] (fun (v3 : Addr × Addr × Addr) => (⟨25, [⟨.fn (.func 65) ⟨[.pointer (some q4), .pointer (some q5), .pointer (some q6)]⟩, #[]⟩], [(4, (Vl (.pointer (some v3.1)))), (5, (Vl (.pointer (some v3.2.1)))), (6, (Vl (.pointer (some v3.2.2)))), (20, (Sl Kf r20)), (22, (Sl (Ki .i64) r22)), (23, (If 225 (Ag [(Vl (.int .i64 y2.2.1)), (Vl (.int .i64 y2.2.2))])))], [⟨.pointer (some v3.1), [(Vl (.slice none 0 0))], 22, none⟩, ⟨.pointer (some v3.2.1), [(Vl (.slice none 0 0))], 23, none⟩, ⟨.pointer (some v3.2.2), [(Vl (.bool false))], 4, none⟩]⟩ : St)) ?_ ?_
    · rintro ⟨q907, q908, q909⟩
      refine ax_all (i := 5) (is := [6]) (by kernel_rfl) (all_cons ?_ (all_cons ?_ all_nil))
      · refine nx_rd (last := #[true, true, true, true, true, true, false, false, false]) rfl (rd_binf' rfl rfl (bf_if (fun _ _ => by kernel_rfl) nil_eql103_if225)) rfl rfl (wt_none' rfl) rfl ?_
        exact tx_pick' [0, 1, 2] (sub_cons rfl (sub_cons rfl (sub_cons rfl (sub_cons rfl (sub_cons rfl (sub_cons rfl sub_nil)))))) (by decide) (pick_cons rfl (pick_cons rfl (pick_cons rfl pick_nil))) (hN6 (q907, q908, q909))
      · refine nx_oxv (last := #[true, true, true, true, true, false, true, false, false]) rfl (oxv_store (i := 0) (o := 0) rfl rfl (lv_sl _ _) ⟨rfl, rfl, rfl, rfl⟩ rfl info22 rfl (H' := [⟨.pointer (some q907), [(Sl Kf r20)], 22, none⟩, ⟨.pointer (some q908), [(Vl (.slice none 0 0))], 23, none⟩, ⟨.pointer (some q909), [(Vl (.bool false))], 4, none⟩]) rfl) rfl rfl bo_nil (wt_none' rfl) rfl fun _ => ?_
        exact tx_pick' [0, 1, 2] (sub_cons rfl (sub_cons rfl (sub_cons rfl (sub_cons rfl (sub_cons rfl sub_nil))))) (by decide) (pick_cons rfl (pick_cons rfl (pick_cons rfl pick_nil))) (hN7 (q907, q908, q909))
    intro hN4
    refine ax_node (f' := 4) #[true, true, true, false, true, true, false, false, false] (fun (v4 : Addr × Addr × Addr) => (⟨25, [⟨.fn (.func 65) ⟨[.pointer (some q4), .pointer (some q5), .pointer (some q6)]⟩, #[]⟩], [(4, (Vl (.pointer (some v4.1)))), (5, (Vl (.pointer (some v4.2.1)))), (6, (Vl (.pointer (some v4.2.2)))), (20, (Sl Kf r20)), (21, (Vl (.slice none 0 0))), (24, (Vl (.bool false)))], [⟨.pointer (some v4.1), [(Vl (.slice none 0 0))], 22, none⟩, ⟨.pointer (some v4.2.1), [(Vl (.slice none 0 0))], 23, none⟩, ⟨.pointer (some v4.2.2), [(Vl (.bool false))], 4, none⟩]⟩ : St)) ?_ ?_
    · rintro ⟨q9010, q9011, q9012⟩
      refine ax_all (i := 3) (is := []) (by kernel_rfl) (all_cons ?_ all_nil)
      · refine nx_ox (last := #[true, true, true, true, true, true, false, false, false]) rfl (ox_calln' (ent_fn' Try.func68 isn68 rfl rfl) (impl_ints_sim hr22 : Go.Sx.Fn Try.prog 68 [(Vl (.slice none 0 0))] [] (fun x : Unit => (Sl (Ki .i64) r22)) (fun x => [])) (Hn := fun x : Unit => [⟨.pointer (some q9010), [(Vl (.slice none 0 0))], 22, none⟩, ⟨.pointer (some q9011), [(Vl (.slice none 0 0))], 23, none⟩, ⟨.pointer (some q9012), [(Vl (.bool false))], 4, none⟩]) (fun _ => rfl) rfl rfl) rfl bs_nil (wt_none' rfl) rfl fun ⟨⟩ => ?_
        exact tx_pick' [0, 1, 2] (sub_cons rfl (sub_cons rfl (sub_cons rfl (sub_cons rfl (sub_cons rfl (sub_cons rfl sub_nil)))))) (by decide) (pick_cons rfl (pick_cons rfl (pick_cons rfl pick_nil))) (hN6 (q9010, q9011, q9012))
    intro hN5
    refine ax_node (f' := 5) #[true, true, true, false, true, false, false, false, false] (fun (v1 : Addr × Addr × Addr) => (⟨25, [⟨.fn (.func 65) ⟨[.pointer (some q4), .pointer (some q5), .pointer (some q6)]⟩, #[]⟩], [(4, (Vl (.pointer (some v1.1)))), (5, (Vl (.pointer (some v1.2.1)))), (6, (Vl (.pointer (some v1.2.2)))), (20, (Sl Kf r20)), (21, (Vl (.slice none 0 0))), (23, (If 225 (Ag [(Vl (.int .i64 y2.2.1)), (Vl (.int .i64 y2.2.2))])))], [⟨.pointer (some v1.1), [(Vl (.slice none 0 0))], 22, none⟩, ⟨.pointer (some v1.2.1), [(Vl (.slice none 0 0))], 23, none⟩, ⟨.pointer (some v1.2.2), [(Vl (.bool false))], 4, none⟩]⟩ : St)) ?_ ?_
    · rintro ⟨q901, q902, q903⟩
      refine ax_all (i := 3) (is := [5]) (by kernel_rfl) (all_cons ?_ (all_cons ?_ all_nil))
      · refine nx_ox (last := #[true, true, true, true, true, false, false, false, false]) rfl (ox_calln' (ent_fn' Try.func68 isn68 rfl rfl) (impl_ints_sim hr22 : Go.Sx.Fn Try.prog 68 [(Vl (.slice none 0 0))] [] (fun x : Unit => (Sl (Ki .i64) r22)) (fun x => [])) (Hn := fun x : Unit => [⟨.pointer (some q901), [(Vl (.slice none 0 0))], 22, none⟩, ⟨.pointer (some q902), [(Vl (.slice none 0 0))], 23, none⟩, ⟨.pointer (some q903), [(Vl (.bool false))], 4, none⟩]) (fun _ => rfl) rfl rfl) rfl bs_nil (wt_none' rfl) rfl fun ⟨⟩ => ?_
        exact tx_pick' [0, 1, 2] (sub_cons rfl (sub_cons rfl (sub_cons rfl (sub_cons rfl (sub_cons rfl (sub_cons rfl sub_nil)))))) (by decide) (pick_cons rfl (pick_cons rfl (pick_cons rfl pick_nil))) (hN4 (q901, q902, q903))
      · refine nx_rd (last := #[true, true, true, false, true, true, false, false, false]) rfl (rd_binf' rfl rfl (bf_if (fun _ _ => by kernel_rfl) nil_eql103_if225)) rfl rfl (wt_none' rfl) rfl ?_
        exact tx_pick' [0, 1, 2] (sub_cons rfl (sub_cons rfl (sub_cons rfl (sub_cons rfl (sub_cons rfl (sub_cons rfl sub_nil)))))) (by decide) (pick_cons rfl (pick_cons rfl (pick_cons rfl pick_nil))) (hN5 (q901, q902, q903))
    intro hN2
    refine ax_node (f' := 5) #[true, false, true, false, true, true, false, false, false] (fun (v2 : Addr × Addr × Addr) => (⟨25, [⟨.fn (.func 65) ⟨[.pointer (some q4), .pointer (some q5), .pointer (some q6)]⟩, #[]⟩], [(4, (Vl (.pointer (some v2.1)))), (5, (Vl (.pointer (some v2.2.1)))), (6, (Vl (.pointer (some v2.2.2)))), (19, (Vl (.slice none 0 0))), (21, (Vl (.slice none 0 0))), (24, (Vl (.bool false)))], [⟨.pointer (some v2.1), [(Vl (.slice none 0 0))], 22, none⟩, ⟨.pointer (some v2.2.1), [(Vl (.slice none 0 0))], 23, none⟩, ⟨.pointer (some v2.2.2), [(Vl (.bool false))], 4, none⟩]⟩ : St)) ?_ ?_
    · rintro ⟨q904, q905, q906⟩
      refine ax_all (i := 1) (is := []) (by kernel_rfl) (all_cons ?_ all_nil)
      · refine nx_ox (last := #[true, true, true, false, true, true, false, false, false]) rfl (ox_calln' (ent_fn' Try.func58 isn58 rfl rfl) (impl_floats_v2_sim hr20 : Go.Sx.Fn Try.prog 58 [(Vl (.slice none 0 0))] [] (fun x : Unit => (Sl Kf r20)) (fun x => [])) (Hn := fun x : Unit => [⟨.pointer (some q904), [(Vl (.slice none 0 0))], 22, none⟩, ⟨.pointer (some q905), [(Vl (.slice none 0 0))], 23, none⟩, ⟨.pointer (some q906), [(Vl (.bool false))], 4, none⟩]) (fun _ => rfl) rfl rfl) rfl bs_nil (wt_none' rfl) rfl fun ⟨⟩ => ?_
        exact tx_pick' [0, 1, 2] (sub_cons rfl (sub_cons rfl (sub_cons rfl (sub_cons rfl (sub_cons rfl (sub_cons rfl sub_nil)))))) (by decide) (pick_cons rfl (pick_cons rfl (pick_cons rfl pick_nil))) (hN5 (q904, q905, q906))
    intro hN3
    refine ax_all (i := 1) (is := [5]) (by kernel_rfl) (all_cons ?_ (all_cons ?_ all_nil))
    · refine nx_ox (last := #[true, true, true, false, true, false, false, false, false]) rfl (ox_calln' (ent_fn' Try.func58 isn58 rfl rfl) (impl_floats_v2_sim hr20 : Go.Sx.Fn Try.prog 58 [(Vl (.slice none 0 0))] [] (fun x : Unit => (Sl Kf r20)) (fun x => [])) (Hn := fun x : Unit => [(Rw (Kl (Kl Kf)) 117 (Vs g13) y2.1), ⟨.pointer (some q6), [(Vl (.bool false))], 4, none⟩, ⟨.pointer (some q5), [(Vl (.slice none 0 0))], 23, none⟩, ⟨.pointer (some q4), [(Vl (.slice none 0 0))], 22, none⟩]) (fun _ => rfl) rfl rfl) rfl bs_nil (wt_none' rfl) rfl fun ⟨⟩ => ?_
      exact tx_pick' [3, 2, 1] (sub_cons rfl (sub_cons rfl (sub_cons rfl (sub_cons rfl (sub_cons rfl (sub_cons rfl sub_nil)))))) (by decide) (pick_cons rfl (pick_cons rfl (pick_cons rfl pick_nil))) (hN2 (q4, q5, q6))
    · refine nx_rd (last := #[true, false, true, false, true, true, false, false, false]) rfl (rd_binf' rfl rfl (bf_if (fun _ _ => by kernel_rfl) nil_eql103_if225)) rfl rfl (wt_none' rfl) rfl ?_
      exact tx_pick' [3, 2, 1] (sub_cons rfl (sub_cons rfl (sub_cons rfl (sub_cons rfl (sub_cons rfl (sub_cons rfl sub_nil)))))) (by decide) (pick_cons rfl (pick_cons rfl (pick_cons rfl pick_nil))) (hN3 (q4, q5, q6))
  · dsimp only at hp
    refine sx_ox' (ox_callg' (ent_fn' Try.func66 isn66 rfl rfl) (gogeom_DoorDeflate2_sim _ _ hr15 : Go.Sx.Fn Try.prog 66 [(Vl (Vs g13)), (Vl (.int .i64 a1))] [(Rw (Kl (Kl Kf)) 117 (Vs g13) r13)] (fun x : Unit => (Tu [(Sl Kf y2.2.1), (Sl (Ki .i64) y2.2.2), (Vl .nilIface)])) (fun x => [(Rw (Kl (Kl Kf)) 117 (Vs g13) y2.1)])) [0] [1, 2, 3] (by decide) (pick_cons rfl pick_nil) (pick_cons rfl (pick_cons rfl (pick_cons rfl pick_nil))) (Hn := fun x : Unit => [(Rw (Kl (Kl Kf)) 117 (Vs g13) y2.1), ⟨.pointer (some q6), [(Vl (.bool false))], 4, none⟩, ⟨.pointer (some q5), [(Vl (.slice none 0 0))], 23, none⟩, ⟨.pointer (some q4), [(Vl (.slice none 0 0))], 22, none⟩]) (fun _ => rfl) rfl rfl) (wt_none' rfl) fun ⟨⟩ => ?_
    refine sx_rd' (rd_move' rfl) rfl rfl (wt_none' rfl) ?_
    refine sx_rd' (rd_extract' rfl rfl) rfl rfl (wt_none' rfl) ?_
    refine sx_rd' (rd_extract' rfl rfl) rfl rfl (wt_none' rfl) ?_
    refine sx_rd' (rd_extract' rfl rfl) rfl rfl (wt_none' rfl) ?_
    refine sx_rd' (rd_assign' rfl) rfl rfl (wt_none' rfl) ?_
    refine sx_rd' (rd_assign' rfl) rfl rfl (wt_none' rfl) ?_
    refine sx_rd' (rd_assign' rfl) rfl rfl (wt_none' rfl) ?_
    refine sx_nil' ?_
    show TX E K3 _
    refine tx_k' hK3 ?_
    refine cx_seq' fun K4 hK4 => ?_
    refine cx_plana' [] [(6, 1), (7, 1), (8, 1)] [(0, 1), (2, 1), (4, 2)] 6 #[true, false, true, false, true, false, false, false, false] mixed (by kernel_rfl) ?_
    refine px_rd' rfl (rd_move' rfl) rfl rfl (wt_none' rfl) ?_
    refine px_rd' rfl (rd_move' rfl) rfl rfl (wt_none' rfl) ?_
    refine px_rb' rfl (rb_move' rfl) rfl rfl (wt_none' rfl) ?_
    refine px_nil' ?_
    show AX E _ _ _ _ _ _ _ _
    obtain ⟨r20, hr20, hp⟩ := bind_some hp
    obtain ⟨r22, hr22, hp⟩ := bind_some hp
    refine ax_node (f' := 0) #[true, true, true, true, true, true, true, true, true] (fun (v10 : Addr × Addr × Addr) => (⟨25, [⟨.fn (.func 65) ⟨[.pointer (some q4), .pointer (some q5), .pointer (some q6)]⟩, #[]⟩], [(4, (Vl (.pointer (some v10.1)))), (5, (Vl (.pointer (some v10.2.1)))), (6, (Vl (.pointer (some v10.2.2))))], [⟨.pointer (some v10.1), [(Sl Kf r20)], 22, none⟩, ⟨.pointer (some v10.2.1), [(Sl (Ki .i64) r22)], 23, none⟩, ⟨.pointer (some v10.2.2), [(Vl (.bool true))], 4, none⟩]⟩ : St)) ?_ ?_
    · rintro ⟨q9028, q9029, q9030⟩
      refine ax_nil (by kernel_rfl) ?_
      show TX E K4 _
      refine tx_k' hK4 ?_
      refine cx_retc' ?_
      replace hp := Option.some.inj hp
      subst hp
      refine tx_leave' (.inl rfl) rfl idle65 rfl Try.func65 isn65 rfl ?_
      refine tx_pick' (L' := [(4, (Vl (.pointer (some q9028)))), (5, (Vl (.pointer (some q9029)))), (6, (Vl (.pointer (some q9030))))]) (H' := [⟨.pointer (some q9028), [(Sl Kf r20)], 22, none⟩, ⟨.pointer (some q9029), [(Sl (Ki .i64) r22)], 23, none⟩, ⟨.pointer (some q9030), [(Vl (.bool true))], 4, none⟩]) [0, 1, 2] (sub_cons rfl (sub_cons rfl (sub_cons rfl sub_nil))) (by decide) (pick_cons rfl (pick_cons rfl (pick_cons rfl pick_nil))) ?_
      exact tx_ret3' Try.results25 rfl () (rv_cell' (i := 0) (o := 0) rfl ⟨rfl, rfl, rfl, rfl⟩ rfl flat22) (rv_cell' (i := 1) (o := 0) rfl ⟨rfl, rfl, rfl, rfl⟩ rfl flat23) (rv_cell' (i := 2) (o := 0) rfl ⟨rfl, rfl, rfl, rfl⟩ rfl flat4) rfl (List.nil_sublist _)
    intro hN11
    refine ax_node (f' := 1) #[true, true, true, true, true, true, true, true, false] (fun (v9 : Addr × Addr × Addr) => (⟨25, [⟨.fn (.func 65) ⟨[.pointer (some q4), .pointer (some q5), .pointer (some q6)]⟩, #[]⟩], [(4, (Vl (.pointer (some v9.1)))), (5, (Vl (.pointer (some v9.2.1)))), (6, (Vl (.pointer (some v9.2.2)))), (24, (Vl (.bool true)))], [⟨.pointer (some v9.1), [(Sl Kf r20)], 22, none⟩, ⟨.pointer (some v9.2.1), [(Sl (Ki .i64) r22)], 23, none⟩, ⟨.pointer (some v9.2.2), [(Vl (.bool false))], 4, none⟩]⟩ : St)) ?_ ?_
    · rintro ⟨q9025, q9026, q9027⟩
      refine ax_all (i := 8) (is := []) (by kernel_rfl) (all_cons ?_ all_nil)
      · refine nx_oxv (last := #[true, true, true, true, true, true, true, true, true]) rfl (oxv_store (i := 2) (o := 0) rfl rfl (lv_vl rfl rfl) ⟨rfl, rfl, rfl, rfl⟩ rfl info4 rfl (H' := [⟨.pointer (some q9025), [(Sl Kf r20)], 22, none⟩, ⟨.pointer (some q9026), [(Sl (Ki .i64) r22)], 23, none⟩, ⟨.pointer (some q9027), [(Vl (.bool true))], 4, none⟩]) rfl) rfl rfl bo_nil (wt_none' rfl) rfl fun _ => ?_
        exact tx_pick' [0, 1, 2] (sub_cons rfl (sub_cons rfl (sub_cons rfl sub_nil))) (by decide) (pick_cons rfl (pick_cons rfl (pick_cons rfl pick_nil))) (hN11 (q9025, q9026, q9027))
    intro hN10
    refine ax_node (f' := 2) #[true, true, true, true, true, true, true, false, false] (fun (v7 : Addr × Addr × Addr) => (⟨25, [⟨.fn (.func 65) ⟨[.pointer (some q4), .pointer (some q5), .pointer (some q6)]⟩, #[]⟩], [(4, (Vl (.pointer (some v7.1)))), (5, (Vl (.pointer (some v7.2.1)))), (6, (Vl (.pointer (some v7.2.2)))), (22, (Sl (Ki .i64) r22)), (24, (Vl (.bool true)))], [⟨.pointer (some v7.1), [(Sl Kf r20)], 22, none⟩, ⟨.pointer (some v7.2.1), [(Vl (.slice none 0 0))], 23, none⟩, ⟨.pointer (some v7.2.2), [(Vl (.bool false))], 4, none⟩]⟩ : St)) ?_ ?_
    · rintro ⟨q9019, q9020, q9021⟩
      refine ax_all (i := 7) (is := []) (by kernel_rfl) (all_cons ?_ all_nil)
      · refine nx_oxv (last := #[true, true, true, true, true, true, true, true, false]) rfl (oxv_store (i := 1) (o := 0) rfl rfl (lv_sl _ _) ⟨rfl, rfl, rfl, rfl⟩ rfl info23 rfl (H' := [⟨.pointer (some q9019), [(Sl Kf r20)], 22, none⟩, ⟨.pointer (some q9020), [(Sl (Ki .i64) r22)], 23, none⟩, ⟨.pointer (some q9021), [(Vl (.bool false))], 4, none⟩]) rfl) rfl rfl bo_nil (wt_none' rfl) rfl fun _ => ?_
        exact tx_pick' [0, 1, 2] (sub_cons rfl (sub_cons rfl (sub_cons rfl (sub_cons rfl sub_nil)))) (by decide) (pick_cons rfl (pick_cons rfl (pick_cons rfl pick_nil))) (hN10 (q9019, q9020, q9021))
    intro hN8
    refine ax_node (f' := 2) #[true, true, true, true, true, false, true, true, false] (fun (v8 : Addr × Addr × Addr) => (⟨25, [⟨.fn (.func 65) ⟨[.pointer (some q4), .pointer (some q5), .pointer (some q6)]⟩, #[]⟩], [(4, (Vl (.pointer (some v8.1)))), (5, (Vl (.pointer (some v8.2.1)))), (6, (Vl (.pointer (some v8.2.2)))), (23, (Vl .nilIface))], [⟨.pointer (some v8.1), [(Sl Kf r20)], 22, none⟩, ⟨.pointer (some v8.2.1), [(Sl (Ki .i64) r22)], 23, none⟩, ⟨.pointer (some v8.2.2), [(Vl (.bool false))], 4, none⟩]⟩ : St)) ?_ ?_
    · rintro ⟨q9022, q9023, q9024⟩
      refine ax_rd (ix := 5) (last := #[true, true, true, true, true, true, true, true, false]) (by kernel_rfl) rfl (rd_binf' rfl rfl (bf_vl (fun _ => by kernel_rfl) nil_eql103_nilif)) rfl rfl (wt_none' rfl) rfl ?_
      exact tx_pick' [0, 1, 2] (sub_cons rfl (sub_cons rfl (sub_cons rfl (sub_cons rfl sub_nil)))) (by decide) (pick_cons rfl (pick_cons rfl (pick_cons rfl pick_nil))) (hN10 (q9022, q9023, q9024))
    intro hN9
    refine ax_node (f' := 3) #[true, true, true, true, true, true, false, false, false] (fun (v5 : Addr × Addr × Addr) => (⟨25, [⟨.fn (.func 65) ⟨[.pointer (some q4), .pointer (some q5), .pointer (some q6)]⟩, #[]⟩], [(4, (Vl (.pointer (some v5.1)))), (5, (Vl (.pointer (some v5.2.1)))), (6, (Vl (.pointer (some v5.2.2)))), (20, (Sl Kf r20)), (22, (Sl (Ki .i64) r22)), (24, (Vl (.bool true)))], [⟨.pointer (some v5.1), [(Vl (.slice none 0 0))], 22, none⟩, ⟨.pointer (some v5.2.1), [(Vl (.slice none 0 0))], 23, none⟩, ⟨.pointer (some v5.2.2), [(Vl (.bool false))], 4, none⟩]⟩ : St)) ?_ ?_
    · rintro ⟨q9013, q9014, q9015⟩
      refine ax_all (i := 6) (is := []) (by kernel_rfl) (all_cons ?_ all_nil)
      · refine nx_oxv (last := #[true, true, true, true, true, true, true, false, false]) rfl (oxv_store (i := 0) (o := 0) rfl rfl (lv_sl _ _) ⟨rfl, rfl, rfl, rfl⟩ rfl info22 rfl (H' := [⟨.pointer (some q9013), [(Sl Kf r20)], 22, none⟩, ⟨.pointer (some q9014), [(Vl (.slice none 0 0))], 23, none⟩, ⟨.pointer (some q9015), [(Vl (.bool false))], 4, none⟩]) rfl) rfl rfl bo_nil (wt_none' rfl) rfl fun _ => ?_
        exact tx_pick' [0, 1, 2] (sub_cons rfl (sub_cons rfl (sub_cons rfl (sub_cons rfl (sub_cons rfl sub_nil))))) (by decide) (pick_cons rfl (pick_cons rfl (pick_cons rfl pick_nil))) (hN8 (q9013, q9014, q9015))
    intro hN6
    refine ax_node (f' := 3) #[true, true, true, true, true, false, true, false, false] (fun (v6 : Addr × Addr × Addr) => (⟨25, [⟨.fn (.func 65) ⟨[.pointer (some q4), .pointer (some q5), .pointer (some q6)]⟩, #[]⟩], [(4, (Vl (.pointer (some v6.1)))), (5, (Vl (.pointer (some v6.2.1)))), (6, (Vl (.pointer (some v6.2.2)))), (22, (Sl (Ki .i64) r22)), (23, (Vl .nilIface))], [⟨.pointer (some v6.1), [(Sl Kf r20)], 22, none⟩, ⟨.pointer (some v6.2.1), [(Vl (.slice none 0 0))], 23, none⟩, ⟨.pointer (some v6.2.2), [(Vl (.bool false))], 4, none⟩]⟩ : St)) ?_ ?_
    · rintro ⟨q9016, q9017, q9018⟩
      refine ax_all (i := 5) (is := [7]) (by kernel_rfl) (all_cons ?_ (all_cons ?_ all_nil))
      · refine nx_rd (last := #[true, true, true, true, true, true, true, false, false]) rfl (rd_binf' rfl rfl (bf_vl (fun _ => by kernel_rfl) nil_eql103_nilif)) rfl rfl (wt_none' rfl) rfl ?_
        exact tx_pick' [0, 1, 2] (sub_cons rfl (sub_cons rfl (sub_cons rfl (sub_cons rfl (sub_cons rfl sub_nil))))) (by decide) (pick_cons rfl (pick_cons rfl (pick_cons rfl pick_nil))) (hN8 (q9016, q9017, q9018))
      · refine nx_oxv (last := #[true, true, true, true, true, false, true, true, false]) rfl (oxv_store (i := 1) (o := 0) rfl rfl (lv_sl _ _) ⟨rfl, rfl, rfl, rfl⟩ rfl info23 rfl (H' := [⟨.pointer (some q9016), [(Sl Kf r20)], 22, none⟩, ⟨.pointer (some q9017), [(Sl (Ki .i64) r22)], 23, none⟩, ⟨.pointer (some q9018), [(Vl (.bool false))], 4, none⟩]) rfl) rfl rfl bo_nil (wt_none' rfl) rfl fun _ => ?_
        exact tx_pick' [0, 1, 2] (sub_cons rfl (sub_cons rfl (sub_cons rfl (sub_cons rfl sub_nil)))) (by decide) (pick_cons rfl (pick_cons rfl (pick_cons rfl pick_nil))) (hN9 (q9016, q9017, q9018))
    intro hN7
    refine ax_node (f' := 4) #[true, true, true, true, true, false, false, false, false] (fun (v3 : Addr × Addr × Addr) => (⟨25, [⟨.fn (.func 65) ⟨[.pointer (some q4), .pointer (some q5), .pointer (some q6)]⟩, #[]⟩], [(4, (Vl (.pointer (some v3.1)))), (5, (Vl (.pointer (some v3.2.1)))), (6, (Vl (.pointer (some v3.2.2)))), (20, (Sl Kf r20)), (22, (Sl (Ki .i64) r22)), (23, (Vl .nilIface))], [⟨.pointer (some v3.1), [(Vl (.slice none 0 0))], 22, none⟩, ⟨.pointer (some v3.2.1), [(Vl (.slice none 0 0))], 23, none⟩, ⟨.pointer (some v3.2.2), [(Vl (.bool false))], 4, none⟩]⟩ : St)) ?_ ?_
    · rintro ⟨q907, q908, q909⟩
      refine ax_all (i := 5) (is := [6]) (by kernel_rfl) (all_cons ?_ (all_cons ?_ all_nil))
      · refine nx_rd (last := #[true, true, true, true, true, true, false, false, false]) rfl (rd_binf' rfl rfl (bf_vl (fun _ => by kernel_rfl) nil_eql103_nilif)) rfl rfl (wt_none' rfl) rfl ?_
        exact tx_pick' [0, 1, 2] (sub_cons rfl (sub_cons rfl (sub_cons rfl (sub_cons rfl (sub_cons rfl (sub_cons rfl sub_nil)))))) (by decide) (pick_cons rfl (pick_cons rfl (pick_cons rfl pick_nil))) (hN6 (q907, q908, q909))
      · refine nx_oxv (last := #[true, true, true, true, true, false, true, false, false]) rfl (oxv_store (i := 0) (o := 0) rfl rfl (lv_sl _ _) ⟨rfl, rfl, rfl, rfl⟩ rfl info22 rfl (H' := [⟨.pointer (some q907), [(Sl Kf r20)], 22, none⟩, ⟨.pointer (some q908), [(Vl (.slice none 0 0))], 23, none⟩, ⟨.pointer (some q909), [(Vl (.bool false))], 4, none⟩]) rfl) rfl rfl bo_nil (wt_none' rfl) rfl fun _ => ?_
        exact tx_pick' [0, 1, 2] (sub_cons rfl (sub_cons rfl (sub_cons rfl (sub_cons rfl (sub_cons rfl sub_nil))))) (by decide) (pick_cons rfl (pick_cons rfl (pick_cons rfl pick_nil))) (hN7 (q907, q908, q909))
    intro hN4
    refine ax_node (f' := 4) #[true, true, true, false, true, true, false, false, false] (fun (v4 : Addr × Addr × Addr) => (⟨25, [⟨.fn (.func 65) ⟨[.pointer (some q4), .pointer (some q5), .pointer (some q6)]⟩, #[]⟩], [(4, (Vl (.pointer (some v4.1)))), (5, (Vl (.pointer (some v4.2.1)))), (6, (Vl (.pointer (some v4.2.2)))), (20, (Sl Kf r20)), (21, (Sl (Ki .i64) y2.2.2)), (24, (Vl (.bool true)))], [⟨.pointer (some v4.1), [(Vl (.slice none 0 0))], 22, none⟩, ⟨.pointer (some v4.2.1), [(Vl (.slice none 0 0))], 23, none⟩, ⟨.pointer (some v4.2.2), [(Vl (.bool false))], 4, none⟩]⟩ : St)) ?_ ?_
    · rintro ⟨q9010, q9011, q9012⟩
      refine ax_all (i := 3) (is := []) (by kernel_rfl) (all_cons ?_ all_nil)
      · refine nx_ox (last := #[true, true, true, true, true, true, false, false, false]) rfl (ox_calln' (ent_fn' Try.func68 isn68 rfl rfl) (impl_ints_v2_sim _ hr22 : Go.Sx.Fn Try.prog 68 [(Sl (Ki .i64) y2.2.2)] [] (fun x : Unit => (Sl (Ki .i64) r22)) (fun x => [])) (Hn := fun x : Unit => [⟨.pointer (some q9010), [(Vl (.slice none 0 0))], 22, none⟩, ⟨.pointer (some q9011), [(Vl (.slice none 0 0))], 23, none⟩, ⟨.pointer (some q9012), [(Vl (.bool false))], 4, none⟩]) (fun _ => rfl) rfl rfl) rfl bs_nil (wt_none' rfl) rfl fun ⟨⟩ => ?_
        exact tx_pick' [0, 1, 2] (sub_cons rfl (sub_cons rfl (sub_cons rfl (sub_cons rfl (sub_cons rfl (sub_cons rfl sub_nil)))))) (by decide) (pick_cons rfl (pick_cons rfl (pick_cons rfl pick_nil))) (hN6 (q9010, q9011, q9012))
    intro hN5
    refine ax_node (f' := 5) #[true, true, true, false, true, false, false, false, false] (fun (v1 : Addr × Addr × Addr) => (⟨25, [⟨.fn (.func 65) ⟨[.pointer (some q4), .pointer (some q5), .pointer (some q6)]⟩, #[]⟩], [(4, (Vl (.pointer (some v1.1)))), (5, (Vl (.pointer (some v1.2.1)))), (6, (Vl (.pointer (some v1.2.2)))), (20, (Sl Kf r20)), (21, (Sl (Ki .i64) y2.2.2)), (23, (Vl .nilIface))], [⟨.pointer (some v1.1), [(Vl (.slice none 0 0))], 22, none⟩, ⟨.pointer (some v1.2.1), [(Vl (.slice none 0 0))], 23, none⟩, ⟨.pointer (some v1.2.2), [(Vl (.bool false))], 4, none⟩]⟩ : St)) ?_ ?_
    · rintro ⟨q901, q902, q903⟩
      refine ax_all (i := 3) (is := [5]) (by kernel_rfl) (all_cons ?_ (all_cons ?_ all_nil))
      · refine nx_ox (last := #[true, true, true, true, true, false, false, false, false]) rfl (ox_calln' (ent_fn' Try.func68 isn68 rfl rfl) (impl_ints_v2_sim _ hr22 : Go.Sx.Fn Try.prog 68 [(Sl (Ki .i64) y2.2.2)] [] (fun x : Unit => (Sl (Ki .i64) r22)) (fun x => [])) (Hn := fun x : Unit => [⟨.pointer (some q901), [(Vl (.slice none 0 0))], 22, none⟩, ⟨.pointer (some q902), [(Vl (.slice none 0 0))], 23, none⟩, ⟨.pointer (some q903), [(Vl (.bool false))], 4, none⟩]) (fun _ => rfl) rfl rfl) rfl bs_nil (wt_none' rfl) rfl fun ⟨⟩ => ?_
        exact tx_pick' [0, 1, 2] (sub_cons rfl (sub_cons rfl (sub_cons rfl (sub_cons rfl (sub_cons rfl (sub_cons rfl sub_nil)))))) (by decide) (pick_cons rfl (pick_cons rfl (pick_cons rfl pick_nil))) (hN4 (q901, q902, q903))
      · refine nx_rd (last := #[true, true, true, false, true, true, false, false, false]) rfl (rd_binf' rfl rfl (bf_vl (fun _ => by kernel_rfl) nil_eql103_nilif)) rfl rfl (wt_none' rfl) rfl ?_
        exact tx_pick' [0, 1, 2] (sub_cons rfl (sub_cons rfl (sub_cons rfl (sub_cons rfl (sub_cons rfl (sub_cons rfl sub_nil)))))) (by decide) (pick_cons rfl (pick_cons rfl (pick_cons rfl pick_nil))) (hN5 (q901, q902, q903))
    intro hN2
    refine ax_node (f' := 5) #[true, false, true, false, true, true, false, false, false] (fun (v2 : Addr × Addr × Addr) => (⟨25, [⟨.fn (.func 65) ⟨[.pointer (some q4), .pointer (some q5), .pointer (some q6)]⟩, #[]⟩], [(4, (Vl (.pointer (some v2.1)))), (5, (Vl (.pointer (some v2.2.1)))), (6, (Vl (.pointer (some v2.2.2)))), (19, (Sl Kf y2.2.1)), (21, (Sl (Ki .i64) y2.2.2)), (24, (Vl (.bool true)))], [⟨.pointer (some v2.1), [(Vl (.slice none 0 0))], 22, none⟩, ⟨.pointer (some v2.2.1), [(Vl (.slice none 0 0))], 23, none⟩, ⟨.pointer (some v2.2.2), [(Vl (.bool false))], 4, none⟩]⟩ : St)) ?_ ?_
    · rintro ⟨q904, q905, q906⟩
      refine ax_all (i := 1) (is := []) (by kernel_rfl) (all_cons ?_ all_nil)
      · refine nx_ox (last := #[true, true, true, false, true, true, false, false, false]) rfl (ox_calln' (ent_fn' Try.func58 isn58 rfl rfl) (impl_floats_sim _ hr20 : Go.Sx.Fn Try.prog 58 [(Sl Kf y2.2.1)] [] (fun x : Unit => (Sl Kf r20)) (fun x => [])) (Hn := fun x : Unit => [⟨.pointer (some q904), [(Vl (.slice none 0 0))], 22, none⟩, ⟨.pointer (some q905), [(Vl (.slice none 0 0))], 23, none⟩, ⟨.pointer (some q906), [(Vl (.bool false))], 4, none⟩]) (fun _ => rfl) rfl rfl) rfl bs_nil (wt_none' rfl) rfl fun ⟨⟩ => ?_
        exact tx_pick' [0, 1, 2] (sub_cons rfl (sub_cons rfl (sub_cons rfl (sub_cons rfl (sub_cons rfl (sub_cons rfl sub_nil)))))) (by decide) (pick_cons rfl (pick_cons rfl (pick_cons rfl pick_nil))) (hN5 (q904, q905, q906))
    intro hN3
    refine ax_all (i := 1) (is := [5]) (by kernel_rfl) (all_cons ?_ (all_cons ?_ all_nil))
    · refine nx_ox (last := #[true, true, true, false, true, false, false, false, false]) rfl (ox_calln' (ent_fn' Try.func58 isn58 rfl rfl) (impl_floats_sim _ hr20 : Go.Sx.Fn Try.prog 58 [(Sl Kf y2.2.1)] [] (fun x : Unit => (Sl Kf r20)) (fun x => [])) (Hn := fun x : Unit => [(Rw (Kl (Kl Kf)) 117 (Vs g13) y2.1), ⟨.pointer (some q6), [(Vl (.bool false))], 4, none⟩, ⟨.pointer (some q5), [(Vl (.slice none 0 0))], 23, none⟩, ⟨.pointer (some q4), [(Vl (.slice none 0 0))], 22, none⟩]) (fun _ => rfl) rfl rfl) rfl bs_nil (wt_none' rfl) rfl fun ⟨⟩ => ?_
      exact tx_pick' [3, 2, 1] (sub_cons rfl (sub_cons rfl (sub_cons rfl (sub_cons rfl (sub_cons rfl (sub_cons rfl sub_nil)))))) (by decide) (pick_cons rfl (pick_cons rfl (pick_cons rfl pick_nil))) (hN2 (q4, q5, q6))
    · refine nx_rd (last := #[true, false, true, false, true, true, false, false, false]) rfl (rd_binf' rfl rfl (bf_vl (fun _ => by kernel_rfl) nil_eql103_nilif)) rfl rfl (wt_none' rfl) rfl ?_
      exact tx_pick' [3, 2, 1] (sub_cons rfl (sub_cons rfl (sub_cons rfl (sub_cons rfl (sub_cons rfl (sub_cons rfl sub_nil)))))) (by decide) (pick_cons rfl (pick_cons rfl (pick_cons rfl pick_nil))) (hN3 (q4, q5, q6))

def impl_coords3_l1s (a0 : List (List (List (List Nat)))) (k : Nat) (rec1 : ((List (List (List (List Nat)))) × Int) → Option ((List (List (List (List Nat)))))) (x1 : List (List (List (List Nat)))) (x2 : Int) : Option ((List (List (List (List Nat))))) :=
  br (decide (x2 < (a0.length : Int)))
    ((idx a0 x2) >>= fun r10 =>
    (impl_coords2 k r10) >>= fun r14 =>
    (apd 24 x1 ([r14])) >>= fun r16 =>
    rec1 (r16, (iadd .i64 x2 1)))
    (some x1)
def impl_coords3_l1 (a0 : List (List (List (List Nat)))) : Nat → ((List (List (List (List Nat)))) × Int) → Option ((List (List (List (List Nat)))))
  | 0, _ => none
  | k + 1, v => impl_coords3_l1s a0 k (impl_coords3_l1 a0 k) v.1 v.2
def impl_coords3 (k : Nat) (a0 : List (List (List (List Nat)))) : Option ((List (List (List (List Nat))))) :=
  (impl_coords3_l1 a0 k ([], 0)) >>= fun v2 =>
  some v2

theorem impl_coords3_sim {k : Nat}  (a0 : List (List (List (List Nat)))) {out : (List (List (List (List Nat))))} (hp : impl_coords3 k a0 = some out) : Go.Sx.Fn Try.prog 91 [(Sl (Kl (Kl (Kl Kf))) a0)] [] (fun w : Gs => (Vl (Vs w))) (fun w => [(Rw (Kl (Kl (Kl Kf))) 106 (Vs w) out)]) := by
  unfold impl_coords3 at hp
  refine fn_of Try.func91 rfl Try.ntmps91 rfl fun E hM => ?_
  refine cx_seq' fun K1 hK1 => ?_
  refine cx_region' ?_
  refine sx_rd' (rd_assign' rfl) rfl rfl (wt_none' rfl) ?_
  refine sx_nil' ?_
  show TX E K1 _
  refine tx_k' hK1 ?_
  refine cx_seq' fun K2 hK2 => ?_
  refine cx_region' ?_
  refine sx_rd' (rd_assign' rfl) rfl rfl (wt_none' rfl) ?_
  refine sx_nil' ?_
  show TX E K2 _
  refine tx_k' hK2 ?_
  refine cx_seq' fun K3 hK3 => ?_
  refine cx_seq' fun K4 hK4 => ?_
  refine cx_region' ?_
  refine sx_rd' (rd_move' rfl) rfl rfl (wt_none' rfl) ?_
  refine sx_rd' (rd_len' rfl Try.underlying47) rfl rfl (wt_none' rfl) ?_
  refine sx_rd' (rd_move' rfl) rfl rfl (wt_none' rfl) ?_
  refine sx_nil' ?_
  show TX E K4 _
  refine tx_k' hK4 ?_
  refine cx_block' ?_
  obtain ⟨v2, hy1, hp⟩ := bind_some hp
  refine tx_nilrow' (Kl (Kl (Kl Kf))) 106 ?_
  refine cx_loopg' (F := impl_coords3_l1 a0) (G := fun k R v => impl_coords3_l1s a0 k R v.1 v.2) (x := ([], 0)) (gh := (none, 0, 0)) (fun (v1 : (List (List (List (List Nat)))) × Int) (w1 : Gs) => (⟨19, [], [(3, (Vl (Vs w1))), (6, (Sl (Kl (Kl (Kl Kf))) a0)), (7, (Vl (.int .i64 (a0.length : Int)))), (8, (Vl (.int .i64 v1.2)))], [(Rw (Kl (Kl (Kl Kf))) 106 (Vs w1) v1.1)]⟩ : St)) (fun (v2 : (List (List (List (List Nat))))) => Zg E (Exit.exit 0) (fun (w2 : Gs) => (⟨19, [], [(3, (Vl (Vs w2)))], [(Rw (Kl (Kl (Kl Kf))) 106 (Vs w2) v2)]⟩ : St))) (fun _ => rfl) (fun _ _ => rfl) ?_ hy1 (tx_to' rfl [0] (sub_cons rfl (sub_cons rfl (sub_cons rfl (sub_cons rfl sub_nil)))) (by decide) (pick_cons rfl pick_nil)) ?_
  · clear hp hy1
    clear v2
    intro k rec1 KY1 ih1
    rintro ⟨x1, x2⟩ g901 y3 hp
    replace hp : impl_coords3_l1s a0 k rec1 x1 x2 = some y3 := hp
    unfold impl_coords3_l1s at hp
    refine cx_seq' fun K9 hK9 => ?_
    refine cx_region' ?_
    refine sx_rd' (rd_bin' rfl rfl eg_int ru_lss) rfl rfl (wt_none' rfl) ?_
    refine sx_nil' ?_
    show TX E K9 _
    refine tx_k' hK9 ?_
    refine cx_seq' fun K10 hK10 => ?_
    refine cx_cond' rfl (fun h3 => ?_) (fun h3 => ?_)
    · replace hp := (br_t h3).symm.trans hp
      refine cx_skip' ?_
      show TX E K10 _
      refine tx_k' hK10 ?_
      refine cx_seq' fun K11 hK11 => ?_
      refine cx_block' ?_
      refine cx_seq' fun K12 hK12 => ?_
      refine cx_region' ?_
      obtain ⟨r10, hr10, hp⟩ := bind_some hp
      refine sx_rd' (rd_at' (K := (Kl (Kl (Kl Kf)))) rfl rfl hr10 Try.underlying47 info43) rfl rfl (wt_none' rfl) ?_
      refine sx_rd' (rd_load_pt' rfl rfl flat43) rfl rfl (wt_none' rfl) ?_
      refine sx_rd' (rd_assign' rfl) rfl rfl (wt_none' rfl) ?_
      refine sx_nil' ?_
      show TX E K12 _
      refine tx_k' hK12 ?_
      refine cx_region' ?_
      refine sx_rd' (rd_move' rfl) rfl rfl (wt_none' rfl) ?_
      refine sx_rd' (rd_move' rfl) rfl rfl (wt_none' rfl) ?_
      obtain ⟨r14, hr14, hp⟩ := bind_some hp
      refine sx_ox' (ox_calln' (ent_fn' Try.func67 isn67 rfl rfl) (impl_coords2_sim _ hr14 : Go.Sx.Fn Try.prog 67 [(Sl (Kl (Kl Kf)) r10)] [] (fun x : Gs => (Vl (Vs x))) (fun x => [(Rw (Kl (Kl Kf)) 117 (Vs x) r14)])) (Hn := fun x : Gs => [(Rw (Kl (Kl Kf)) 117 (Vs x) r14), (Rw (Kl (Kl (Kl Kf))) 106 (Vs g901) x1)]) (fun _ => rfl) rfl rfl) (wt_none' rfl) fun g14 => ?_
      refine tx_fz' (frz_row 0 [(14, (Vl (Vs g14)), (Sl (Kl (Kl Kf)) r14))] (K := (Kl (Kl Kf))) (xs := r14) (by decide) rfl ⟨⟨rfl, frz_it⟩, trivial⟩ (H' := [(Rw (Kl (Kl (Kl Kf))) 106 (Vs g901) x1)]) frzH_refl) ?_
      refine sx_ox' (ox_rowlit' (K := (Kl (Kl (Kl Kf)))) (xs := [r14]) (qs := [(0, [(Sl (Kl (Kl Kf)) r14)])]) ⟨rfl, ⟨_, rfl, (lv_sl _ _)⟩, trivial⟩ Try.underlying122 info106 rfl rfl rfl rfl rfl (by kernel_rfl) rfl rfl rfl) (wt_none' rfl) fun g15 => ?_
      obtain ⟨r16, hr16, hp⟩ := bind_some hp
      refine sx_ox' (ox_append' (K := (Kl (Kl (Kl Kf)))) (i := 1) (xs := x1) (ys := ([r14])) rfl rfl rfl (sr_row' (j := 0) rfl rfl rfl Try.underlying122) hr16 Try.underlying122 info106 rfl rfl rfl (H' := [(Rw (Kl (Kl (Kl Kf))) 106 (Vs g15) ([r14]))]) rfl) (wt_none' rfl) fun g16 => ?_
      refine sx_rd' (rd_assign' rfl) rfl rfl (wt_none' rfl) ?_
      refine sx_nil' ?_
      show TX E K11 _
      refine tx_k' hK11 ?_
      refine cx_region' ?_
      refine sx_rd' (rd_bin' rfl rfl eg_int ru_add) rfl rfl (wt_none' rfl) ?_
      refine sx_rd' (rd_move' rfl) rfl rfl (wt_none' rfl) ?_
      refine sx_nil' ?_
      show TX E (KY1 _) _
      exact tx_pick' [0] (sub_cons rfl (sub_cons rfl (sub_cons rfl (sub_cons rfl sub_nil)))) (by decide) (pick_cons rfl pick_nil) (ih1 (r16, (iadd .i64 x2 1)) g16 _ hp)
    · replace hp := (br_f h3).symm.trans hp
      refine cx_exit' ?_
      replace hp := Option.some.inj hp
      subst hp
      show TX E (Zg E (Exit.exit 0) _ (Exit.exit 0)) _
      exact tx_zend' g901 rfl [0] (sub_cons rfl sub_nil) (by decide) (pick_cons rfl pick_nil)
  · refine zg_out fun w2 => ?_
    show TX E K3 _
    refine tx_k' hK3 ?_
    refine cx_seq' fun K13 hK13 => ?_
    refine cx_region' ?_
    refine sx_rd' (rd_move' rfl) rfl rfl (wt_none' rfl) ?_
    refine sx_rd' (rd_assign' rfl) rfl rfl (wt_none' rfl) ?_
    refine sx_nil' ?_
    show TX E K13 _
    refine tx_k' hK13 ?_
    refine cx_retc' ?_
    replace hp := Option.some.inj hp
    subst hp
    refine tx_pick' (L' := [(2, (Vl (Vs w2)))]) (H' := [(Rw (Kl (Kl (Kl Kf))) 106 (Vs w2) v2)]) [0] (sub_cons rfl sub_nil) (by decide) (pick_cons rfl pick_nil) ?_
    exact tx_ret1' Try.results91 rfl w2 (rv_tmp' rfl) (List.Sublist.refl _)

def gogeom_deflate2_v2_l1s (a2 : List (List (List Nat))) (a3 : Int) (k : Nat) (rec1 : ((List Nat) × (List Int) × Int) → Option ((Int × Int) ⊕ ((List Nat) × (List Int)))) (x1 : List Nat) (x2 : List Int) (x3 : Int) : Option ((Int × Int) ⊕ ((List Nat) × (List Int))) :=
  br (decide (x3 < (a2.length : Int)))
    ((idx a2 x3) >>= fun r18 =>
    (gogeom_deflate1_v3 k x1 r18 a3) >>= fun r24 =>
    match r24 with
      | (.inl y3) =>
        (some (.inl (y3.1, y3.2)))
      | (.inr y3) =>
        ((apd 8 x2 ([(y3.length : Int)])) >>= fun r34 =>
        rec1 (y3, r34, (iadd .i64 x3 1))))
    (some (.inr (x1, x2)))
def gogeom_deflate2_v2_l1 (a2 : List (List (List Nat))) (a3 : Int) : Nat → ((List Nat) × (List Int) × Int) → Option ((Int × Int) ⊕ ((List Nat) × (List Int)))
  | 0, _ => none
  | k + 1, v => gogeom_deflate2_v2_l1s a2 a3 k (gogeom_deflate2_v2_l1 a2 a3 k) v.1 v.2.1 v.2.2
def gogeom_deflate2_v2 (k : Nat) (a2 : List (List (List Nat))) (a3 : Int) : Option ((Int × Int) ⊕ ((List Nat) × (List Int))) :=
  (gogeom_deflate2_v2_l1 a2 a3 k ([], [], 0)) >>= fun y5 => match y5 with
    | (.inl v2) =>
      (some (.inl (v2.1, v2.2)))
    | (.inr v3) =>
      (some (.inr (v3.1, v3.2)))
def gogeom_deflate2_v2_r  (a2 : List (List (List Nat))) (a3 : Int) (out : (Int × Int) ⊕ ((List Nat) × (List Int))) (w : Gs × Gs) : SV := match out with
  | (.inl y) => (Tu [(Vl (.slice none 0 0)), (Vl (.slice none 0 0)), (If 225 (Ag [(Vl (.int .i64 y.1)), (Vl (.int .i64 y.2))]))])
  | (.inr y) => (Tu [(Vl (Vs w.1)), (Vl (Vs w.2)), (Vl .nilIface)])
def gogeom_deflate2_v2_h  (a2 : List (List (List Nat))) (a3 : Int) (out : (Int × Int) ⊕ ((List Nat) × (List Int))) (w : Gs × Gs) : List Res := match out with
  | (.inl y) => []
  | (.inr y) => [(Rw Kf 32 (Vs w.1) y.1), (Rw (Ki .i64) 3 (Vs w.2) y.2)]

theorem gogeom_deflate2_v2_sim {k : Nat}  (a2 : List (List (List Nat))) (a3 : Int) {out : (Int × Int) ⊕ ((List Nat) × (List Int))} (hp : gogeom_deflate2_v2 k a2 a3 = some out) : Go.Sx.Fn Try.prog 114 [(Vl (.slice none 0 0)), (Vl (.slice none 0 0)), (Sl (Kl (Kl Kf)) a2), (Vl (.int .i64 a3))] [] (fun w => gogeom_deflate2_v2_r a2 a3 out w) (fun w => gogeom_deflate2_v2_h a2 a3 out w) := by
  unfold gogeom_deflate2_v2 at hp
  refine fn_of Try.func114 rfl Try.ntmps114 rfl fun E hM => ?_
  refine cx_seq' fun K1 hK1 => ?_
  refine cx_region' ?_
  refine sx_rd' (rd_assign' rfl) rfl rfl (wt_none' rfl) ?_
  refine sx_rd' (rd_assign' rfl) rfl rfl (wt_none' rfl) ?_
  refine sx_rd' (rd_assign' rfl) rfl rfl (wt_none' rfl) ?_
  refine sx_nil' ?_
  show TX E K1 _
  refine tx_k' hK1 ?_
  refine cx_seq' fun K2 hK2 => ?_
  refine cx_seq' fun K3 hK3 => ?_
  refine cx_region' ?_
  refine sx_rd' (rd_move' rfl) rfl rfl (wt_none' rfl) ?_
  refine sx_rd' (rd_len' rfl Try.underlying106) rfl rfl (wt_none' rfl) ?_
  refine sx_rd' (rd_move' rfl) rfl rfl (wt_none' rfl) ?_
  refine sx_nil' ?_
  show TX E K3 _
  refine tx_k' hK3 ?_
  refine cx_block' ?_
  obtain ⟨y5, hy1, hp⟩ := bind_some hp
  refine tx_nilrow' Kf 32 ?_
  refine tx_nilrow' (Ki .i64) 3 ?_
  refine cx_loopg' (F := gogeom_deflate2_v2_l1 a2 a3) (G := fun k R v => gogeom_deflate2_v2_l1s a2 a3 k R v.1 v.2.1 v.2.2) (x := ([], [], 0)) (gh := ((none, 0, 0), (none, 0, 0))) (fun (v1 : (List Nat) × (List Int) × Int) (w1 : Gs × Gs) => (⟨38, [], [(0, (Vl (Vs w1.1))), (1, (Vl (Vs w1.2))), (3, (Vl (.int .i64 a3))), (14, (Sl (Kl (Kl Kf)) a2)), (15, (Vl (.int .i64 (a2.length : Int)))), (16, (Vl (.int .i64 v1.2.2)))], [(Rw Kf 32 (Vs w1.1) v1.1), (Rw (Ki .i64) 3 (Vs w1.2) v1.2.1)]⟩ : St)) (fun (y : (Int × Int) ⊕ ((List Nat) × (List Int))) => match y with | (.inl v2) => Zg E Exit.ret (fun (w2 : Unit) => (⟨38, [], [(8, (Vl (.slice none 0 0))), (9, (Vl (.slice none 0 0))), (10, (If 225 (Ag [(Vl (.int .i64 v2.1)), (Vl (.int .i64 v2.2))])))], []⟩ : St)) | (.inr v3) => Zg E (Exit.exit 0) (fun (w3 : Gs × Gs) => (⟨38, [], [(0, (Vl (Vs w3.1))), (1, (Vl (Vs w3.2)))], [(Rw Kf 32 (Vs w3.1) v3.1), (Rw (Ki .i64) 3 (Vs w3.2) v3.2)]⟩ : St))) (fun _ => rfl) (fun _ _ => rfl) ?_ hy1 (tx_to' rfl [1, 0] (sub_cons rfl (sub_cons rfl (sub_cons rfl (sub_cons rfl (sub_cons rfl (sub_cons rfl sub_nil)))))) (by decide) (pick_cons rfl (pick_cons rfl pick_nil))) ?_
  · clear hp hy1
    clear y5
    intro k rec1 KY1 ih1
    rintro ⟨x1, x2, x3⟩ ⟨g901, g902⟩ y5 hp
    replace hp : gogeom_deflate2_v2_l1s a2 a3 k rec1 x1 x2 x3 = some y5 := hp
    unfold gogeom_deflate2_v2_l1s at hp
    refine cx_seq' fun K13 hK13 => ?_
    refine cx_region' ?_
    refine sx_rd' (rd_bin' rfl rfl eg_int ru_lss) rfl rfl (wt_none' rfl) ?_
    refine sx_nil' ?_
    show TX E K13 _
    refine tx_k' hK13 ?_
    refine cx_seq' fun K14 hK14 => ?_
    refine cx_cond' rfl (fun h3 => ?_) (fun h3 => ?_)
    · replace hp := (br_t h3).symm.trans hp
      refine cx_skip' ?_
      show TX E K14 _
      refine tx_k' hK14 ?_
      refine cx_seq' fun K15 hK15 => ?_
      refine cx_block' ?_
      refine cx_seq' fun K16 hK16 => ?_
      refine cx_region' ?_
      obtain ⟨r18, hr18, hp⟩ := bind_some hp
      refine sx_rd' (rd_at' (K := (Kl (Kl Kf))) rfl rfl hr18 Try.underlying106 info117) rfl rfl (wt_none' rfl) ?_
      refine sx_rd' (rd_load_pt' rfl rfl flat117) rfl rfl (wt_none' rfl) ?_
      refine sx_rd' (rd_assign' rfl) rfl rfl (wt_none' rfl) ?_
      refine sx_nil' ?_
      show TX E K16 _
      refine tx_k' hK16 ?_
      refine cx_seq' fun K17 hK17 => ?_
      refine cx_region' ?_
      refine sx_rd' (rd_assign' rfl) rfl rfl (wt_none' rfl) ?_
      refine sx_nil' ?_
      show TX E K17 _
      refine tx_k' hK17 ?_
      refine cx_seq' fun K18 hK18 => ?_
      refine cx_region' ?_
      refine sx_rd' (rd_move' rfl) rfl rfl (wt_none' rfl) ?_
      refine sx_rd' (rd_move' rfl) rfl rfl (wt_none' rfl) ?_
      refine sx_rd' (rd_move' rfl) rfl rfl (wt_none' rfl) ?_
      obtain ⟨r24, hr24, hp⟩ := bind_some hp
      rcases r24 with y3 | y3
      · dsimp only at hp
        refine sx_ox' (ox_callg' (ent_fn' Try.func122 isn122 rfl rfl) (gogeom_deflate1_v3_sim _ _ _ hr24 : Go.Sx.Fn Try.prog 122 [(Vl (Vs g901)), (Sl (Kl Kf) r18), (Vl (.int .i64 a3))] [(Rw Kf 32 (Vs g901) x1)] (fun x : Gs => (Tu [(Vl (.slice none 0 0)), (If 225 (Ag [(Vl (.int .i64 y3.1)), (Vl (.int .i64 y3.2))]))])) (fun x => [])) [0] [1] (by decide) (pick_cons rfl pick_nil) (pick_cons rfl pick_nil) (Hn := fun x : Gs => [(Rw (Ki .i64) 3 (Vs g902) x2)]) (fun _ => rfl) rfl rfl) (wt_none' rfl) fun g24 => ?_
        refine sx_rd' (rd_move' rfl) rfl rfl (wt_none' rfl) ?_
        refine sx_rd' (rd_extract' rfl rfl) rfl rfl (wt_none' rfl) ?_
        refine sx_rd' (rd_extract' rfl rfl) rfl rfl (wt_none' rfl) ?_
        refine sx_rd' (rd_assign' rfl) rfl rfl (wt_none' rfl) ?_
        refine sx_rd' (rd_assign' rfl) rfl rfl (wt_none' rfl) ?_
        refine sx_nil' ?_
        show TX E K18 _
        refine tx_k' hK18 ?_
        refine cx_seq' fun K19 hK19 => ?_
        refine cx_seq' fun K20 hK20 => ?_
        refine cx_region' ?_
        refine sx_rd' (rd_move' rfl) rfl rfl (wt_none' rfl) ?_
        refine sx_rd' (rd_binf' rfl rfl (bf_if (fun _ _ => by kernel_rfl) nil_neq103_if225)) rfl rfl (wt_none' rfl) ?_
        refine sx_nil' ?_
        show TX E K20 _
        refine tx_k' hK20 ?_
        refine cx_cond_t' rfl rfl ?_
        refine cx_seq' fun K21 hK21 => ?_
        refine cx_region' ?_
        refine sx_rd' (rd_move' rfl) rfl rfl (wt_none' rfl) ?_
        refine sx_rd' (rd_assign' rfl) rfl rfl (wt_none' rfl) ?_
        refine sx_rd' (rd_assign' rfl) rfl rfl (wt_none' rfl) ?_
        refine sx_rd' (rd_assign' rfl) rfl rfl (wt_none' rfl) ?_
        refine sx_nil' ?_
        show TX E K21 _
        refine tx_k' hK21 ?_
        refine cx_retc' ?_
        replace hp := Option.some.inj hp
        subst hp
        show TX E (Zg E Exit.ret _ Exit.ret) _
        exact tx_zend' () rfl [] (sub_cons rfl (sub_cons rfl (sub_cons rfl sub_nil))) (by decide) pick_nil
      · dsimp only at hp
        refine sx_ox' (ox_callg' (ent_fn' Try.func122 isn122 rfl rfl) (gogeom_deflate1_v3_sim _ _ _ hr24 : Go.Sx.Fn Try.prog 122 [(Vl (Vs g901)), (Sl (Kl Kf) r18), (Vl (.int .i64 a3))] [(Rw Kf 32 (Vs g901) x1)] (fun x : Gs => (Tu [(Vl (Vs x)), (Vl .nilIface)])) (fun x => [(Rw Kf 32 (Vs x) y3)])) [0] [1] (by decide) (pick_cons rfl pick_nil) (pick_cons rfl pick_nil) (Hn := fun x : Gs => [(Rw Kf 32 (Vs x) y3), (Rw (Ki .i64) 3 (Vs g902) x2)]) (fun _ => rfl) rfl rfl) (wt_none' rfl) fun g24 => ?_
        refine sx_rd' (rd_move' rfl) rfl rfl (wt_none' rfl) ?_
        refine sx_rd' (rd_extract' rfl rfl) rfl rfl (wt_none' rfl) ?_
        refine sx_rd' (rd_extract' rfl rfl) rfl rfl (wt_none' rfl) ?_
        refine sx_rd' (rd_assign' rfl) rfl rfl (wt_none' rfl) ?_
        refine sx_rd' (rd_assign' rfl) rfl rfl (wt_none' rfl) ?_
        refine sx_nil' ?_
        show TX E K18 _
        refine tx_k' hK18 ?_
        refine cx_seq' fun K19 hK19 => ?_
        refine cx_seq' fun K20 hK20 => ?_
        refine cx_region' ?_
        refine sx_rd' (rd_move' rfl) rfl rfl (wt_none' rfl) ?_
        refine sx_rd' (rd_binf' rfl rfl (bf_vl (fun _ => by kernel_rfl) nil_neq103_nilif)) rfl rfl (wt_none' rfl) ?_
        refine sx_nil' ?_
        show TX E K20 _
        refine tx_k' hK20 ?_
        refine cx_cond_f' rfl rfl ?_
        refine cx_skip' ?_
        show TX E K19 _
        refine tx_k' hK19 ?_
        refine cx_region' ?_
        refine sx_rd' (rd_move' rfl) rfl rfl (wt_none' rfl) ?_
        refine sx_rd' (rd_move' rfl) rfl rfl (wt_none' rfl) ?_
        refine sx_rd' (rd_lenr' (i := 0) rfl rfl rfl Try.underlying22) rfl rfl (wt_none' rfl) ?_
        refine sx_ox' (ox_rowlit' (K := (Ki .i64)) (xs := [(y3.length : Int)]) (qs := [(0, [(Vl (.int .i64 (y3.length : Int)))])]) ⟨rfl, ⟨_, rfl, (lv_vl rfl rfl)⟩, trivial⟩ Try.underlying23 info3 rfl rfl rfl rfl rfl (by kernel_rfl) rfl rfl rfl) (wt_none' rfl) fun g33 => ?_
        obtain ⟨r34, hr34, hp⟩ := bind_some hp
        refine sx_ox' (ox_append' (K := (Ki .i64)) (i := 2) (xs := x2) (ys := ([(y3.length : Int)])) rfl rfl rfl (sr_row' (j := 0) rfl rfl rfl Try.underlying23) hr34 Try.underlying23 info3 rfl rfl rfl (H' := [(Rw (Ki .i64) 3 (Vs g33) ([(y3.length : Int)])), (Rw Kf 32 (Vs g24) y3)]) rfl) (wt_none' rfl) fun g34 => ?_
        refine sx_rd' (rd_assign' rfl) rfl rfl (wt_none' rfl) ?_
        refine sx_nil' ?_
        show TX E K15 _
        refine tx_k' hK15 ?_
        refine cx_region' ?_
        refine sx_rd' (rd_bin' rfl rfl eg_int ru_add) rfl rfl (wt_none' rfl) ?_
        refine sx_rd' (rd_move' rfl) rfl rfl (wt_none' rfl) ?_
        refine sx_nil' ?_
        show TX E (KY1 _) _
        exact tx_pick' [2, 0] (sub_cons rfl (sub_cons rfl (sub_cons rfl (sub_cons rfl (sub_cons rfl (sub_cons rfl sub_nil)))))) (by decide) (pick_cons rfl (pick_cons rfl pick_nil)) (ih1 (y3, r34, (iadd .i64 x3 1)) (g24, g34) _ hp)
    · replace hp := (br_f h3).symm.trans hp
      refine cx_exit' ?_
      replace hp := Option.some.inj hp
      subst hp
      show TX E (Zg E (Exit.exit 0) _ (Exit.exit 0)) _
      exact tx_zend' (g901, g902) rfl [0, 1] (sub_cons rfl (sub_cons rfl sub_nil)) (by decide) (pick_cons rfl (pick_cons rfl pick_nil))
  · rcases y5 with v2 | v3
    · dsimp only at hp
      refine zg_out fun w2 => ?_
      replace hp := Option.some.inj hp
      subst hp
      refine tx_pick' (L' := [(8, (Vl (.slice none 0 0))), (9, (Vl (.slice none 0 0))), (10, (If 225 (Ag [(Vl (.int .i64 v2.1)), (Vl (.int .i64 v2.2))])))]) (H' := []) [] (sub_cons rfl (sub_cons rfl (sub_cons rfl sub_nil))) (by decide) pick_nil ?_
      exact tx_ret3' Try.results114 rfl ((none, 0, 0), (none, 0, 0)) (rv_tmp' rfl) (rv_tmp' rfl) (rv_tmp' rfl) rfl (List.Sublist.refl _)
    · dsimp only at hp
      refine zg_out fun w3 => ?_
      show TX E K2 _
      refine tx_k' hK2 ?_
      refine cx_seq' fun K22 hK22 => ?_
      refine cx_region' ?_
      refine sx_rd' (rd_move' rfl) rfl rfl (wt_none' rfl) ?_
      refine sx_rd' (rd_move' rfl) rfl rfl (wt_none' rfl) ?_
      refine sx_rd' (rd_assign' rfl) rfl rfl (wt_none' rfl) ?_
      refine sx_rd' (rd_assign' rfl) rfl rfl (wt_none' rfl) ?_
      refine sx_rd' (rd_assign' rfl) rfl rfl (wt_none' rfl) ?_
      refine sx_nil' ?_
      show TX E K22 _
      refine tx_k' hK22 ?_
      refine cx_retc' ?_
      replace hp := Option.some.inj hp
      subst hp
      refine tx_pick' (L' := [(8, (Vl (Vs w3.1))), (9, (Vl (Vs w3.2))), (10, (Vl .nilIface))]) (H' := [(Rw Kf 32 (Vs w3.1) v3.1), (Rw (Ki .i64) 3 (Vs w3.2) v3.2)]) [0, 1] (sub_cons rfl (sub_cons rfl (sub_cons rfl sub_nil))) (by decide) (pick_cons rfl (pick_cons rfl pick_nil)) ?_
      exact tx_ret3' Try.results114 rfl (w3.1, w3.2) (rv_tmp' rfl) (rv_tmp' rfl) (rv_tmp' rfl) rfl (List.Sublist.refl _)

def gogeom_deflate2_v3_l1s (a2 : List (List (List Nat))) (a3 : Int) (k : Nat) (rec1 : ((List Nat) × (List Int) × Int) → Option ((Int × Int) ⊕ ((List Nat) × (List Int)))) (x1 : List Nat) (x2 : List Int) (x3 : Int) : Option ((Int × Int) ⊕ ((List Nat) × (List Int))) :=
  br (decide (x3 < (a2.length : Int)))
    ((idx a2 x3) >>= fun r18 =>
    (gogeom_deflate1_v3 k x1 r18 a3) >>= fun r24 =>
    match r24 with
      | (.inl y3) =>
        (some (.inl (y3.1, y3.2)))
      | (.inr y3) =>
        ((apd 8 x2 ([(y3.length : Int)])) >>= fun r34 =>
        rec1 (y3, r34, (iadd .i64 x3 1))))
    (some (.inr (x1, x2)))
def gogeom_deflate2_v3_l1 (a2 : List (List (List Nat))) (a3 : Int) : Nat → ((List Nat) × (List Int) × Int) → Option ((Int × Int) ⊕ ((List Nat) × (List Int)))
  | 0, _ => none
  | k + 1, v => gogeom_deflate2_v3_l1s a2 a3 k (gogeom_deflate2_v3_l1 a2 a3 k) v.1 v.2.1 v.2.2
def gogeom_deflate2_v3 (k : Nat) (a0 : List Nat) (a2 : List (List (List Nat))) (a3 : Int) : Option ((Int × Int) ⊕ ((List Nat) × (List Int))) :=
  (gogeom_deflate2_v3_l1 a2 a3 k (a0, [], 0)) >>= fun y5 => match y5 with
    | (.inl v2) =>
      (some (.inl (v2.1, v2.2)))
    | (.inr v3) =>
      (some (.inr (v3.1, v3.2)))
def gogeom_deflate2_v3_r (wa0 : Gs) (a0 : List Nat) (a2 : List (List (List Nat))) (a3 : Int) (out : (Int × Int) ⊕ ((List Nat) × (List Int))) (w : Gs × Gs) : SV := match out with
  | (.inl y) => (Tu [(Vl (.slice none 0 0)), (Vl (.slice none 0 0)), (If 225 (Ag [(Vl (.int .i64 y.1)), (Vl (.int .i64 y.2))]))])
  | (.inr y) => (Tu [(Vl (Vs w.1)), (Vl (Vs w.2)), (Vl .nilIface)])
def gogeom_deflate2_v3_h (wa0 : Gs) (a0 : List Nat) (a2 : List (List (List Nat))) (a3 : Int) (out : (Int × Int) ⊕ ((List Nat) × (List Int))) (w : Gs × Gs) : List Res := match out with
  | (.inl y) => []
  | (.inr y) => [(Rw Kf 32 (Vs w.1) y.1), (Rw (Ki .i64) 3 (Vs w.2) y.2)]

theorem gogeom_deflate2_v3_sim {k : Nat} {wa0 : Gs} (a0 : List Nat) (a2 : List (List (List Nat))) (a3 : Int) {out : (Int × Int) ⊕ ((List Nat) × (List Int))} (hp : gogeom_deflate2_v3 k a0 a2 a3 = some out) : Go.Sx.Fn Try.prog 114 [(Vl (Vs wa0)), (Vl (.slice none 0 0)), (Sl (Kl (Kl Kf)) a2), (Vl (.int .i64 a3))] [(Rw Kf 32 (Vs wa0) a0)] (fun w => gogeom_deflate2_v3_r wa0 a0 a2 a3 out w) (fun w => gogeom_deflate2_v3_h wa0 a0 a2 a3 out w) := by
  unfold gogeom_deflate2_v3 at hp
  refine fn_of Try.func114 rfl Try.ntmps114 rfl fun E hM => ?_
  refine cx_seq' fun K1 hK1 => ?_
  refine cx_region' ?_
  refine sx_rd' (rd_assign' rfl) rfl rfl (wt_none' rfl) ?_
  refine sx_rd' (rd_assign' rfl) rfl rfl (wt_none' rfl) ?_
  refine sx_rd' (rd_assign' rfl) rfl rfl (wt_none' rfl) ?_
  refine sx_nil' ?_
  show TX E K1 _
  refine tx_k' hK1 ?_
  refine cx_seq' fun K2 hK2 => ?_
  refine cx_seq' fun K3 hK3 => ?_
  refine cx_region' ?_
  refine sx_rd' (rd_move' rfl) rfl rfl (wt_none' rfl) ?_
  refine sx_rd' (rd_len' rfl Try.underlying106) rfl rfl (wt_none' rfl) ?_
  refine sx_rd' (rd_move' rfl) rfl rfl (wt_none' rfl) ?_
  refine sx_nil' ?_
  show TX E K3 _
  refine tx_k' hK3 ?_
  refine cx_block' ?_
  obtain ⟨y5, hy1, hp⟩ := bind_some hp
  refine tx_nilrow' (Ki .i64) 3 ?_
  refine cx_loopg' (F := gogeom_deflate2_v3_l1 a2 a3) (G := fun k R v => gogeom_deflate2_v3_l1s a2 a3 k R v.1 v.2.1 v.2.2) (x := (a0, [], 0)) (gh := (wa0, (none, 0, 0))) (fun (v1 : (List Nat) × (List Int) × Int) (w1 : Gs × Gs) => (⟨38, [], [(0, (Vl (Vs w1.1))), (1, (Vl (Vs w1.2))), (3, (Vl (.int .i64 a3))), (14, (Sl (Kl (Kl Kf)) a2)), (15, (Vl (.int .i64 (a2.length : Int)))), (16, (Vl (.int .i64 v1.2.2)))], [(Rw Kf 32 (Vs w1.1) v1.1), (Rw (Ki .i64) 3 (Vs w1.2) v1.2.1)]⟩ : St)) (fun (y : (Int × Int) ⊕ ((List Nat) × (List Int))) => match y with | (.inl v2) => Zg E Exit.ret (fun (w2 : Unit) => (⟨38, [], [(8, (Vl (.slice none 0 0))), (9, (Vl (.slice none 0 0))), (10, (If 225 (Ag [(Vl (.int .i64 v2.1)), (Vl (.int .i64 v2.2))])))], []⟩ : St)) | (.inr v3) => Zg E (Exit.exit 0) (fun (w3 : Gs × Gs) => (⟨38, [], [(0, (Vl (Vs w3.1))), (1, (Vl (Vs w3.2)))], [(Rw Kf 32 (Vs w3.1) v3.1), (Rw (Ki .i64) 3 (Vs w3.2) v3.2)]⟩ : St))) (fun _ => rfl) (fun _ _ => rfl) ?_ hy1 (tx_to' rfl [1, 0] (sub_cons rfl (sub_cons rfl (sub_cons rfl (sub_cons rfl (sub_cons rfl (sub_cons rfl sub_nil)))))) (by decide) (pick_cons rfl (pick_cons rfl pick_nil))) ?_
  · clear hp hy1
    clear y5
    intro k rec1 KY1 ih1
    rintro ⟨x1, x2, x3⟩ ⟨g901, g902⟩ y5 hp
    replace hp : gogeom_deflate2_v3_l1s a2 a3 k rec1 x1 x2 x3 = some y5 := hp
    unfold gogeom_deflate2_v3_l1s at hp
    refine cx_seq' fun K13 hK13 => ?_
    refine cx_region' ?_
    refine sx_rd' (rd_bin' rfl rfl eg_int ru_lss) rfl rfl (wt_none' rfl) ?_
    refine sx_nil' ?_
    show TX E K13 _
    refine tx_k' hK13 ?_
    refine cx_seq' fun K14 hK14 => ?_
    refine cx_cond' rfl (fun h3 => ?_) (fun h3 => ?_)
    · replace hp := (br_t h3).symm.trans hp
      refine cx_skip' ?_
      show TX E K14 _
      refine tx_k' hK14 ?_
      refine cx_seq' fun K15 hK15 => ?_
      refine cx_block' ?_
      refine cx_seq' fun K16 hK16 => ?_
      refine cx_region' ?_
      obtain ⟨r18, hr18, hp⟩ := bind_some hp
      refine sx_rd' (rd_at' (K := (Kl (Kl Kf))) rfl rfl hr18 Try.underlying106 info117) rfl rfl (wt_none' rfl) ?_
      refine sx_rd' (rd_load_pt' rfl rfl flat117) rfl rfl (wt_none' rfl) ?_
      refine sx_rd' (rd_assign' rfl) rfl rfl (wt_none' rfl) ?_
      refine sx_nil' ?_
      show TX E K16 _
      refine tx_k' hK16 ?_
      refine cx_seq' fun K17 hK17 => ?_
      refine cx_region' ?_
      refine sx_rd' (rd_assign' rfl) rfl rfl (wt_none' rfl) ?_
      refine sx_nil' ?_
      show TX E K17 _
      refine tx_k' hK17 ?_
      refine cx_seq' fun K18 hK18 => ?_
      refine cx_region' ?_
      refine sx_rd' (rd_move' rfl) rfl rfl (wt_none' rfl) ?_
      refine sx_rd' (rd_move' rfl) rfl rfl (wt_none' rfl) ?_
      refine sx_rd' (rd_move' rfl) rfl rfl (wt_none' rfl) ?_
      obtain ⟨r24, hr24, hp⟩ := bind_some hp
      rcases r24 with y3 | y3
      · dsimp only at hp
        refine sx_ox' (ox_callg' (ent_fn' Try.func122 isn122 rfl rfl) (gogeom_deflate1_v3_sim _ _ _ hr24 : Go.Sx.Fn Try.prog 122 [(Vl (Vs g901)), (Sl (Kl Kf) r18), (Vl (.int .i64 a3))] [(Rw Kf 32 (Vs g901) x1)] (fun x : Gs => (Tu [(Vl (.slice none 0 0)), (If 225 (Ag [(Vl (.int .i64 y3.1)), (Vl (.int .i64 y3.2))]))])) (fun x => [])) [0] [1] (by decide) (pick_cons rfl pick_nil) (pick_cons rfl pick_nil) (Hn := fun x : Gs => [(Rw (Ki .i64) 3 (Vs g902) x2)]) (fun _ => rfl) rfl rfl) (wt_none' rfl) fun g24 => ?_
        refine sx_rd' (rd_move' rfl) rfl rfl (wt_none' rfl) ?_
        refine sx_rd' (rd_extract' rfl rfl) rfl rfl (wt_none' rfl) ?_
        refine sx_rd' (rd_extract' rfl rfl) rfl rfl (wt_none' rfl) ?_
        refine sx_rd' (rd_assign' rfl) rfl rfl (wt_none' rfl) ?_
        refine sx_rd' (rd_assign' rfl) rfl rfl (wt_none' rfl) ?_
        refine sx_nil' ?_
        show TX E K18 _
        refine tx_k' hK18 ?_
        refine cx_seq' fun K19 hK19 => ?_
        refine cx_seq' fun K20 hK20 => ?_
        refine cx_region' ?_
        refine sx_rd' (rd_move' rfl) rfl rfl (wt_none' rfl) ?_
        refine sx_rd' (rd_binf' rfl rfl (bf_if (fun _ _ => by kernel_rfl) nil_neq103_if225)) rfl rfl (wt_none' rfl) ?_
        refine sx_nil' ?_
        show TX E K20 _
        refine tx_k' hK20 ?_
        refine cx_cond_t' rfl rfl ?_
        refine cx_seq' fun K21 hK21 => ?_
        refine cx_region' ?_
        refine sx_rd' (rd_move' rfl) rfl rfl (wt_none' rfl) ?_
        refine sx_rd' (rd_assign' rfl) rfl rfl (wt_none' rfl) ?_
        refine sx_rd' (rd_assign' rfl) rfl rfl (wt_none' rfl) ?_
        refine sx_rd' (rd_assign' rfl) rfl rfl (wt_none' rfl) ?_
        refine sx_nil' ?_
        show TX E K21 _
        refine tx_k' hK21 ?_
        refine cx_retc' ?_
        replace hp := Option.some.inj hp
        subst hp
        show TX E (Zg E Exit.ret _ Exit.ret) _
        exact tx_zend' () rfl [] (sub_cons rfl (sub_cons rfl (sub_cons rfl sub_nil))) (by decide) pick_nil
      · dsimp only at hp
        refine sx_ox' (ox_callg' (ent_fn' Try.func122 isn122 rfl rfl) (gogeom_deflate1_v3_sim _ _ _ hr24 : Go.Sx.Fn Try.prog 122 [(Vl (Vs g901)), (Sl (Kl Kf) r18), (Vl (.int .i64 a3))] [(Rw Kf 32 (Vs g901) x1)] (fun x : Gs => (Tu [(Vl (Vs x)), (Vl .nilIface)])) (fun x => [(Rw Kf 32 (Vs x) y3)])) [0] [1] (by decide) (pick_cons rfl pick_nil) (pick_cons rfl pick_nil) (Hn := fun x : Gs => [(Rw Kf 32 (Vs x) y3), (Rw (Ki .i64) 3 (Vs g902) x2)]) (fun _ => rfl) rfl rfl) (wt_none' rfl) fun g24 => ?_
        refine sx_rd' (rd_move' rfl) rfl rfl (wt_none' rfl) ?_
        refine sx_rd' (rd_extract' rfl rfl) rfl rfl (wt_none' rfl) ?_
        refine sx_rd' (rd_extract' rfl rfl) rfl rfl (wt_none' rfl) ?_
        refine sx_rd' (rd_assign' rfl) rfl rfl (wt_none' rfl) ?_
        refine sx_rd' (rd_assign' rfl) rfl rfl (wt_none' rfl) ?_
        refine sx_nil' ?_
        show TX E K18 _
        refine tx_k' hK18 ?_
        refine cx_seq' fun K19 hK19 => ?_
        refine cx_seq' fun K20 hK20 => ?_
        refine cx_region' ?_
        refine sx_rd' (rd_move' rfl) rfl rfl (wt_none' rfl) ?_
        refine sx_rd' (rd_binf' rfl rfl (bf_vl (fun _ => by kernel_rfl) nil_neq103_nilif)) rfl rfl (wt_none' rfl) ?_
        refine sx_nil' ?_
        show TX E K20 _
        refine tx_k' hK20 ?_
        refine cx_cond_f' rfl rfl ?_
        refine cx_skip' ?_
        show TX E K19 _
        refine tx_k' hK19 ?_
        refine cx_region' ?_
        refine sx_rd' (rd_move' rfl) rfl rfl (wt_none' rfl) ?_
        refine sx_rd' (rd_move' rfl) rfl rfl (wt_none' rfl) ?_
        refine sx_rd' (rd_lenr' (i := 0) rfl rfl rfl Try.underlying22) rfl rfl (wt_none' rfl) ?_
        refine sx_ox' (ox_rowlit' (K := (Ki .i64)) (xs := [(y3.length : Int)]) (qs := [(0, [(Vl (.int .i64 (y3.length : Int)))])]) ⟨rfl, ⟨_, rfl, (lv_vl rfl rfl)⟩, trivial⟩ Try.underlying23 info3 rfl rfl rfl rfl rfl (by kernel_rfl) rfl rfl rfl) (wt_none' rfl) fun g33 => ?_
        obtain ⟨r34, hr34, hp⟩ := bind_some hp
        refine sx_ox' (ox_append' (K := (Ki .i64)) (i := 2) (xs := x2) (ys := ([(y3.length : Int)])) rfl rfl rfl (sr_row' (j := 0) rfl rfl rfl Try.underlying23) hr34 Try.underlying23 info3 rfl rfl rfl (H' := [(Rw (Ki .i64) 3 (Vs g33) ([(y3.length : Int)])), (Rw Kf 32 (Vs g24) y3)]) rfl) (wt_none' rfl) fun g34 => ?_
        refine sx_rd' (rd_assign' rfl) rfl rfl (wt_none' rfl) ?_
        refine sx_nil' ?_
        show TX E K15 _
        refine tx_k' hK15 ?_
        refine cx_region' ?_
        refine sx_rd' (rd_bin' rfl rfl eg_int ru_add) rfl rfl (wt_none' rfl) ?_
        refine sx_rd' (rd_move' rfl) rfl rfl (wt_none' rfl) ?_
        refine sx_nil' ?_
        show TX E (KY1 _) _
        exact tx_pick' [2, 0] (sub_cons rfl (sub_cons rfl (sub_cons rfl (sub_cons rfl (sub_cons rfl (sub_cons rfl sub_nil)))))) (by decide) (pick_cons rfl (pick_cons rfl pick_nil)) (ih1 (y3, r34, (iadd .i64 x3 1)) (g24, g34) _ hp)
    · replace hp := (br_f h3).symm.trans hp
      refine cx_exit' ?_
      replace hp := Option.some.inj hp
      subst hp
      show TX E (Zg E (Exit.exit 0) _ (Exit.exit 0)) _
      exact tx_zend' (g901, g902) rfl [0, 1] (sub_cons rfl (sub_cons rfl sub_nil)) (by decide) (pick_cons rfl (pick_cons rfl pick_nil))
  · rcases y5 with v2 | v3
    · dsimp only at hp
      refine zg_out fun w2 => ?_
      replace hp := Option.some.inj hp
      subst hp
      refine tx_pick' (L' := [(8, (Vl (.slice none 0 0))), (9, (Vl (.slice none 0 0))), (10, (If 225 (Ag [(Vl (.int .i64 v2.1)), (Vl (.int .i64 v2.2))])))]) (H' := []) [] (sub_cons rfl (sub_cons rfl (sub_cons rfl sub_nil))) (by decide) pick_nil ?_
      exact tx_ret3' Try.results114 rfl ((none, 0, 0), (none, 0, 0)) (rv_tmp' rfl) (rv_tmp' rfl) (rv_tmp' rfl) rfl (List.Sublist.refl _)
    · dsimp only at hp
      refine zg_out fun w3 => ?_
      show TX E K2 _
      refine tx_k' hK2 ?_
      refine cx_seq' fun K22 hK22 => ?_
      refine cx_region' ?_
      refine sx_rd' (rd_move' rfl) rfl rfl (wt_none' rfl) ?_
      refine sx_rd' (rd_move' rfl) rfl rfl (wt_none' rfl) ?_
      refine sx_rd' (rd_assign' rfl) rfl rfl (wt_none' rfl) ?_
      refine sx_rd' (rd_assign' rfl) rfl rfl (wt_none' rfl) ?_
      refine sx_rd' (rd_assign' rfl) rfl rfl (wt_none' rfl) ?_
      refine sx_nil' ?_
      show TX E K22 _
      refine tx_k' hK22 ?_
      refine cx_retc' ?_
      replace hp := Option.some.inj hp
      subst hp
      refine tx_pick' (L' := [(8, (Vl (Vs w3.1))), (9, (Vl (Vs w3.2))), (10, (Vl .nilIface))]) (H' := [(Rw Kf 32 (Vs w3.1) v3.1), (Rw (Ki .i64) 3 (Vs w3.2) v3.2)]) [0, 1] (sub_cons rfl (sub_cons rfl (sub_cons rfl sub_nil))) (by decide) (pick_cons rfl (pick_cons rfl pick_nil)) ?_
      exact tx_ret3' Try.results114 rfl (w3.1, w3.2) (rv_tmp' rfl) (rv_tmp' rfl) (rv_tmp' rfl) rfl (List.Sublist.refl _)

def gogeom_deflate3_l1s (a2 : List (List (List (List Nat)))) (a3 : Int) (k : Nat) (rec1 : ((List Nat) × (List (List Int)) × Int) → Option ((Int × Int) ⊕ ((List Nat) × (List (List Int))))) (x1 : List Nat) (x2 : List (List Int)) (x3 : Int) : Option ((Int × Int) ⊕ ((List Nat) × (List (List Int)))) :=
  br (decide (x3 < (a2.length : Int)))
    ((idx a2 x3) >>= fun r19 =>
    (gogeom_deflate2_v3 k x1 r19 a3) >>= fun r26 =>
    match r26 with
      | (.inl y4) =>
        (some (.inl (y4.1, y4.2)))
      | (.inr y4) =>
        ((apd 24 x2 ([y4.2])) >>= fun r36 =>
        rec1 (y4.1, r36, (iadd .i64 x3 1))))
    (some (.inr (x1, x2)))
def gogeom_deflate3_l1 (a2 : List (List (List (List Nat)))) (a3 : Int) : Nat → ((List Nat) × (List (List Int)) × Int) → Option ((Int × Int) ⊕ ((List Nat) × (List (List Int))))
  | 0, _ => none
  | k + 1, v => gogeom_deflate3_l1s a2 a3 k (gogeom_deflate3_l1 a2 a3 k) v.1 v.2.1 v.2.2
def gogeom_deflate3 (k : Nat) (a2 : List (List (List (List Nat)))) (a3 : Int) : Option (((List (List (List (List Nat)))) × Int × Int) ⊕ ((List (List (List (List Nat)))) × (List Nat) × (List (List Int)))) :=
  (gogeom_deflate3_l1 a2 a3 k ([], [], 0)) >>= fun y7 => match y7 with
    | (.inl v2) =>
      (some (.inl (a2, v2.1, v2.2)))
    | (.inr v3) =>
      (some (.inr (a2, v3.1, v3.2)))
def gogeom_deflate3_r (wa2 : Gs) (a2 : List (List (List (List Nat)))) (a3 : Int) (out : ((List (List (List (List Nat)))) × Int × Int) ⊕ ((List (List (List (List Nat)))) × (List Nat) × (List (List Int)))) (w : Unit) : SV := match out with
  | (.inl y) => (Tu [(Vl (.slice none 0 0)), (Vl (.slice none 0 0)), (If 225 (Ag [(Vl (.int .i64 y.2.1)), (Vl (.int .i64 y.2.2))]))])
  | (.inr y) => (Tu [(Sl Kf y.2.1), (Sl (Kl (Ki .i64)) y.2.2), (Vl .nilIface)])
def gogeom_deflate3_h (wa2 : Gs) (a2 : List (List (List (List Nat)))) (a3 : Int) (out : ((List (List (List (List Nat)))) × Int × Int) ⊕ ((List (List (List (List Nat)))) × (List Nat) × (List (List Int)))) (w : Unit) : List Res := match out with
  | (.inl y) => [(Rw (Kl (Kl (Kl Kf))) 106 (Vs wa2) y.1)]
  | (.inr y) => [(Rw (Kl (Kl (Kl Kf))) 106 (Vs wa2) y.1)]

theorem gogeom_deflate3_sim {k : Nat} {wa2 : Gs} (a2 : List (List (List (List Nat)))) (a3 : Int) {out : ((List (List (List (List Nat)))) × Int × Int) ⊕ ((List (List (List (List Nat)))) × (List Nat) × (List (List Int)))} (hp : gogeom_deflate3 k a2 a3 = some out) : Go.Sx.Fn Try.prog 123 [(Vl (.slice none 0 0)), (Vl (.slice none 0 0)), (Vl (Vs wa2)), (Vl (.int .i64 a3))] [(Rw (Kl (Kl (Kl Kf))) 106 (Vs wa2) a2)] (fun w => gogeom_deflate3_r wa2 a2 a3 out w) (fun w => gogeom_deflate3_h wa2 a2 a3 out w) := by
  unfold gogeom_deflate3 at hp
  refine fn_of Try.func123 rfl Try.ntmps123 rfl fun E hM => ?_
  refine cx_seq' fun K1 hK1 => ?_
  refine cx_region' ?_
  refine sx_rd' (rd_assign' rfl) rfl rfl (wt_none' rfl) ?_
  refine sx_rd' (rd_assign' rfl) rfl rfl (wt_none' rfl) ?_
  refine sx_rd' (rd_assign' rfl) rfl rfl (wt_none' rfl) ?_
  refine sx_nil' ?_
  show TX E K1 _
  refine tx_k' hK1 ?_
  refine cx_seq' fun K2 hK2 => ?_
  refine cx_seq' fun K3 hK3 => ?_
  refine cx_region' ?_
  refine sx_rd' (rd_move' rfl) rfl rfl (wt_none' rfl) ?_
  refine sx_rd' (rd_lenr' (i := 0) rfl rfl rfl Try.underlying122) rfl rfl (wt_none' rfl) ?_
  refine sx_rd' (rd_move' rfl) rfl rfl (wt_none' rfl) ?_
  refine sx_nil' ?_
  show TX E K3 _
  refine tx_k' hK3 ?_
  refine cx_block' ?_
  obtain ⟨y7, hy1, hp⟩ := bind_some hp
  refine tx_nilrow' Kf 32 ?_
  refine tx_nilrow' (Kl (Ki .i64)) 23 ?_
  refine cx_loopg' (F := gogeom_deflate3_l1 a2 a3) (G := fun k R v => gogeom_deflate3_l1s a2 a3 k R v.1 v.2.1 v.2.2) (x := ([], [], 0)) (gh := ((none, 0, 0), (none, 0, 0))) (fun (v1 : (List Nat) × (List (List Int)) × Int) (w1 : Gs × Gs) => (⟨40, [], [(0, (Vl (Vs w1.1))), (1, (Vl (Vs w1.2))), (3, (Vl (.int .i64 a3))), (15, (Vl (Vs wa2))), (16, (Vl (.int .i64 (a2.length : Int)))), (17, (Vl (.int .i64 v1.2.2)))], [(Rw Kf 32 (Vs w1.1) v1.1), (Rw (Kl (Ki .i64)) 23 (Vs w1.2) v1.2.1), (Rw (Kl (Kl (Kl Kf))) 106 (Vs wa2) a2)]⟩ : St)) (fun (y : (Int × Int) ⊕ ((List Nat) × (List (List Int)))) => match y with | (.inl v2) => Zg E Exit.ret (fun (w2 : Unit) => (⟨40, [], [(8, (Vl (.slice none 0 0))), (9, (Vl (.slice none 0 0))), (10, (If 225 (Ag [(Vl (.int .i64 v2.1)), (Vl (.int .i64 v2.2))])))], [(Rw (Kl (Kl (Kl Kf))) 106 (Vs wa2) a2)]⟩ : St)) | (.inr v3) => Zg E (Exit.exit 0) (fun (w3 : Gs × Gs) => (⟨40, [], [(0, (Vl (Vs w3.1))), (1, (Vl (Vs w3.2)))], [(Rw Kf 32 (Vs w3.1) v3.1), (Rw (Kl (Ki .i64)) 23 (Vs w3.2) v3.2), (Rw (Kl (Kl (Kl Kf))) 106 (Vs wa2) a2)]⟩ : St))) (fun _ => rfl) (fun _ _ => rfl) ?_ hy1 (tx_to' rfl [1, 0, 2] (sub_cons rfl (sub_cons rfl (sub_cons rfl (sub_cons rfl (sub_cons rfl (sub_cons rfl sub_nil)))))) (by decide) (pick_cons rfl (pick_cons rfl (pick_cons rfl pick_nil)))) ?_
  · clear hp hy1
    clear y7
    intro k rec1 KY1 ih1
    rintro ⟨x1, x2, x3⟩ ⟨g901, g902⟩ y7 hp
    replace hp : gogeom_deflate3_l1s a2 a3 k rec1 x1 x2 x3 = some y7 := hp
    unfold gogeom_deflate3_l1s at hp
    refine cx_seq' fun K14 hK14 => ?_
    refine cx_region' ?_
    refine sx_rd' (rd_bin' rfl rfl eg_int ru_lss) rfl rfl (wt_none' rfl) ?_
    refine sx_nil' ?_
    show TX E K14 _
    refine tx_k' hK14 ?_
    refine cx_seq' fun K15 hK15 => ?_
    refine cx_cond' rfl (fun h3 => ?_) (fun h3 => ?_)
    · replace hp := (br_t h3).symm.trans hp
      refine cx_skip' ?_
      show TX E K15 _
      refine tx_k' hK15 ?_
      refine cx_seq' fun K16 hK16 => ?_
      refine cx_block' ?_
      refine cx_seq' fun K17 hK17 => ?_
      refine cx_region' ?_
      obtain ⟨r19, hr19, hp⟩ := bind_some hp
      refine sx_rd' (rd_atr' (m := 2) rfl rfl rfl rfl hr19 Try.underlying122 info106) rfl rfl (wt_none' rfl) ?_
      refine sx_rd' (rd_loadr' rfl (m := 2) (i := x3) (j := 0) rfl rfl hr19 rfl rfl flat106) rfl rfl (wt_none' rfl) ?_
      refine sx_rd' (rd_assign' rfl) rfl rfl (wt_none' rfl) ?_
      refine sx_nil' ?_
      show TX E K17 _
      refine tx_k' hK17 ?_
      refine cx_seq' fun K18 hK18 => ?_
      refine cx_region' ?_
      refine sx_rd' (rd_assign' rfl) rfl rfl (wt_none' rfl) ?_
      refine sx_nil' ?_
      show TX E K18 _
      refine tx_k' hK18 ?_
      refine cx_seq' fun K19 hK19 => ?_
      refine cx_region' ?_
      refine sx_rd' (rd_assign' rfl) rfl rfl (wt_none' rfl) ?_
      refine sx_nil' ?_
      show TX E K19 _
      refine tx_k' hK19 ?_
      refine cx_seq' fun K20 hK20 => ?_
      refine cx_region' ?_
      refine sx_rd' (rd_move' rfl) rfl rfl (wt_none' rfl) ?_
      refine sx_rd' (rd_move' rfl) rfl rfl (wt_none' rfl) ?_
      refine sx_rd' (rd_move' rfl) rfl rfl (wt_none' rfl) ?_
      refine sx_rd' (rd_move' rfl) rfl rfl (wt_none' rfl) ?_
      obtain ⟨r26, hr26, hp⟩ := bind_some hp
      rcases r26 with y4 | y4
      · dsimp only at hp
        refine sx_ox' (ox_callg' (ent_fn' Try.func114 isn114 rfl rfl) (gogeom_deflate2_v3_sim _ _ _ hr26 : Go.Sx.Fn Try.prog 114 [(Vl (Vs g901)), (Vl (.slice none 0 0)), (Sl (Kl (Kl Kf)) r19), (Vl (.int .i64 a3))] [(Rw Kf 32 (Vs g901) x1)] (fun x : Gs × Gs => (Tu [(Vl (.slice none 0 0)), (Vl (.slice none 0 0)), (If 225 (Ag [(Vl (.int .i64 y4.1)), (Vl (.int .i64 y4.2))]))])) (fun x => [])) [0] [1, 2] (by decide) (pick_cons rfl pick_nil) (pick_cons rfl (pick_cons rfl pick_nil)) (Hn := fun x : Gs × Gs => [(Rw (Kl (Ki .i64)) 23 (Vs g902) x2), (Rw (Kl (Kl (Kl Kf))) 106 (Vs wa2) a2)]) (fun _ => rfl) rfl rfl) (wt_none' rfl) fun ⟨g26, gz2⟩ => ?_
        refine sx_rd' (rd_move' rfl) rfl rfl (wt_none' rfl) ?_
        refine sx_rd' (rd_extract' rfl rfl) rfl rfl (wt_none' rfl) ?_
        refine sx_rd' (rd_extract' rfl rfl) rfl rfl (wt_none' rfl) ?_
        refine sx_rd' (rd_extract' rfl rfl) rfl rfl (wt_none' rfl) ?_
        refine sx_rd' (rd_assign' rfl) rfl rfl (wt_none' rfl) ?_
        refine sx_rd' (rd_assign' rfl) rfl rfl (wt_none' rfl) ?_
        refine sx_rd' (rd_assign' rfl) rfl rfl (wt_none' rfl) ?_
        refine sx_nil' ?_
        show TX E K20 _
        refine tx_k' hK20 ?_
        refine cx_seq' fun K21 hK21 => ?_
        refine cx_seq' fun K22 hK22 => ?_
        refine cx_region' ?_
        refine sx_rd' (rd_move' rfl) rfl rfl (wt_none' rfl) ?_
        refine sx_rd' (rd_binf' rfl rfl (bf_if (fun _ _ => by kernel_rfl) nil_neq103_if225)) rfl rfl (wt_none' rfl) ?_
        refine sx_nil' ?_
        show TX E K22 _
        refine tx_k' hK22 ?_
        refine cx_cond_t' rfl rfl ?_
        refine cx_seq' fun K23 hK23 => ?_
        refine cx_region' ?_
        refine sx_rd' (rd_move' rfl) rfl rfl (wt_none' rfl) ?_
        refine sx_rd' (rd_assign' rfl) rfl rfl (wt_none' rfl) ?_
        refine sx_rd' (rd_assign' rfl) rfl rfl (wt_none' rfl) ?_
        refine sx_rd' (rd_assign' rfl) rfl rfl (wt_none' rfl) ?_
        refine sx_nil' ?_
        show TX E K23 _
        refine tx_k' hK23 ?_
        refine cx_retc' ?_
        replace hp := Option.some.inj hp
        subst hp
        show TX E (Zg E Exit.ret _ Exit.ret) _
        exact tx_zend' () rfl [1] (sub_cons rfl (sub_cons rfl (sub_cons rfl sub_nil))) (by decide) (pick_cons rfl pick_nil)
      · dsimp only at hp
        refine sx_ox' (ox_callg' (ent_fn' Try.func114 isn114 rfl rfl) (gogeom_deflate2_v3_sim _ _ _ hr26 : Go.Sx.Fn Try.prog 114 [(Vl (Vs g901)), (Vl (.slice none 0 0)), (Sl (Kl (Kl Kf)) r19), (Vl (.int .i64 a3))] [(Rw Kf 32 (Vs g901) x1)] (fun x : Gs × Gs => (Tu [(Vl (Vs x.1)), (Vl (Vs x.2)), (Vl .nilIface)])) (fun x => [(Rw Kf 32 (Vs x.1) y4.1), (Rw (Ki .i64) 3 (Vs x.2) y4.2)])) [0] [1, 2] (by decide) (pick_cons rfl pick_nil) (pick_cons rfl (pick_cons rfl pick_nil)) (Hn := fun x : Gs × Gs => [(Rw Kf 32 (Vs x.1) y4.1), (Rw (Ki .i64) 3 (Vs x.2) y4.2), (Rw (Kl (Ki .i64)) 23 (Vs g902) x2), (Rw (Kl (Kl (Kl Kf))) 106 (Vs wa2) a2)]) (fun _ => rfl) rfl rfl) (wt_none' rfl) fun ⟨g26, gz2⟩ => ?_
        refine sx_rd' (rd_move' rfl) rfl rfl (wt_none' rfl) ?_
        refine sx_rd' (rd_extract' rfl rfl) rfl rfl (wt_none' rfl) ?_
        refine sx_rd' (rd_extract' rfl rfl) rfl rfl (wt_none' rfl) ?_
        refine sx_rd' (rd_extract' rfl rfl) rfl rfl (wt_none' rfl) ?_
        refine sx_rd' (rd_assign' rfl) rfl rfl (wt_none' rfl) ?_
        refine sx_rd' (rd_assign' rfl) rfl rfl (wt_none' rfl) ?_
        refine sx_rd' (rd_assign' rfl) rfl rfl (wt_none' rfl) ?_
        refine sx_nil' ?_
        show TX E K20 _
        refine tx_k' hK20 ?_
        refine cx_seq' fun K21 hK21 => ?_
        refine cx_seq' fun K22 hK22 => ?_
        refine cx_region' ?_
        refine sx_rd' (rd_move' rfl) rfl rfl (wt_none' rfl) ?_
        refine sx_rd' (rd_binf' rfl rfl (bf_vl (fun _ => by kernel_rfl) nil_neq103_nilif)) rfl rfl (wt_none' rfl) ?_
        refine sx_nil' ?_
        show TX E K22 _
        refine tx_k' hK22 ?_
        refine cx_cond_f' rfl rfl ?_
        refine cx_skip' ?_
        show TX E K21 _
        refine tx_k' hK21 ?_
        refine cx_region' ?_
        refine sx_rd' (rd_move' rfl) rfl rfl (wt_none' rfl) ?_
        refine sx_rd' (rd_move' rfl) rfl rfl (wt_none' rfl) ?_
        refine tx_fz' (frz_row 1 [(14, (Vl (Vs gz2)), (Sl (Ki .i64) y4.2)), (28, (Vl (Vs gz2)), (Sl (Ki .i64) y4.2)), (34, (Vl (Vs gz2)), (Sl (Ki .i64) y4.2))] (K := (Ki .i64)) (xs := y4.2) (by decide) rfl ⟨⟨rfl, frz_it⟩, ⟨rfl, frz_it⟩, ⟨rfl, frz_it⟩, trivial⟩ (H' := [(Rw Kf 32 (Vs g26) y4.1), (Rw (Kl (Ki .i64)) 23 (Vs g902) x2), (Rw (Kl (Kl (Kl Kf))) 106 (Vs wa2) a2)]) frzH_refl) ?_
        refine sx_ox' (ox_rowlit' (K := (Kl (Ki .i64))) (xs := [y4.2]) (qs := [(0, [(Sl (Ki .i64) y4.2)])]) ⟨rfl, ⟨_, rfl, (lv_sl _ _)⟩, trivial⟩ Try.underlying24 info23 rfl rfl rfl rfl rfl (by kernel_rfl) rfl rfl rfl) (wt_none' rfl) fun g35 => ?_
        obtain ⟨r36, hr36, hp⟩ := bind_some hp
        refine sx_ox' (ox_append' (K := (Kl (Ki .i64))) (i := 2) (xs := x2) (ys := ([y4.2])) rfl rfl rfl (sr_row' (j := 0) rfl rfl rfl Try.underlying24) hr36 Try.underlying24 info23 rfl rfl rfl (H' := [(Rw (Kl (Ki .i64)) 23 (Vs g35) ([y4.2])), (Rw Kf 32 (Vs g26) y4.1), (Rw (Kl (Kl (Kl Kf))) 106 (Vs wa2) a2)]) rfl) (wt_none' rfl) fun g36 => ?_
        refine sx_rd' (rd_assign' rfl) rfl rfl (wt_none' rfl) ?_
        refine sx_nil' ?_
        show TX E K16 _
        refine tx_k' hK16 ?_
        refine cx_region' ?_
        refine sx_rd' (rd_bin' rfl rfl eg_int ru_add) rfl rfl (wt_none' rfl) ?_
        refine sx_rd' (rd_move' rfl) rfl rfl (wt_none' rfl) ?_
        refine sx_nil' ?_
        show TX E (KY1 _) _
        exact tx_pick' [2, 0, 3] (sub_cons rfl (sub_cons rfl (sub_cons rfl (sub_cons rfl (sub_cons rfl (sub_cons rfl sub_nil)))))) (by decide) (pick_cons rfl (pick_cons rfl (pick_cons rfl pick_nil))) (ih1 (y4.1, r36, (iadd .i64 x3 1)) (g26, g36) _ hp)
    · replace hp := (br_f h3).symm.trans hp
      refine cx_exit' ?_
      replace hp := Option.some.inj hp
      subst hp
      show TX E (Zg E (Exit.exit 0) _ (Exit.exit 0)) _
      exact tx_zend' (g901, g902) rfl [0, 1, 2] (sub_cons rfl (sub_cons rfl sub_nil)) (by decide) (pick_cons rfl (pick_cons rfl (pick_cons rfl pick_nil)))
  · rcases y7 with v2 | v3
    · dsimp only at hp
      refine zg_out fun w2 => ?_
      replace hp := Option.some.inj hp
      subst hp
      refine tx_pick' (L' := [(8, (Vl (.slice none 0 0))), (9, (Vl (.slice none 0 0))), (10, (If 225 (Ag [(Vl (.int .i64 v2.1)), (Vl (.int .i64 v2.2))])))]) (H' := [(Rw (Kl (Kl (Kl Kf))) 106 (Vs wa2) a2)]) [0] (sub_cons rfl (sub_cons rfl (sub_cons rfl sub_nil))) (by decide) (pick_cons rfl pick_nil) ?_
      exact tx_ret3' Try.results123 rfl () (rv_tmp' rfl) (rv_tmp' rfl) (rv_tmp' rfl) rfl (List.Sublist.refl _)
    · dsimp only at hp
      refine zg_out fun w3 => ?_
      show TX E K2 _
      refine tx_k' hK2 ?_
      refine cx_seq' fun K24 hK24 => ?_
      refine cx_region' ?_
      refine sx_rd' (rd_move' rfl) rfl rfl (wt_none' rfl) ?_
      refine sx_rd' (rd_move' rfl) rfl rfl (wt_none' rfl) ?_
      refine sx_rd' (rd_assign' rfl) rfl rfl (wt_none' rfl) ?_
      refine sx_rd' (rd_assign' rfl) rfl rfl (wt_none' rfl) ?_
      refine sx_rd' (rd_assign' rfl) rfl rfl (wt_none' rfl) ?_
      refine sx_nil' ?_
      show TX E K24 _
      refine tx_k' hK24 ?_
      refine cx_retc' ?_
      replace hp := Option.some.inj hp
      subst hp
      refine tx_fz' (frz_row 0 [(0, (Vl (Vs w3.1)), (Sl Kf v3.1)), (38, (Vl (Vs w3.1)), (Sl Kf v3.1)), (8, (Vl (Vs w3.1)), (Sl Kf v3.1))] (K := Kf) (xs := v3.1) (by decide) rfl ⟨⟨rfl, frz_it⟩, ⟨rfl, frz_it⟩, ⟨rfl, frz_it⟩, trivial⟩ (H' := [(Rw (Kl (Ki .i64)) 23 (Vs w3.2) v3.2), (Rw (Kl (Kl (Kl Kf))) 106 (Vs wa2) a2)]) frzH_refl) ?_
      refine tx_fz' (frz_row 0 [(1, (Vl (Vs w3.2)), (Sl (Kl (Ki .i64)) v3.2)), (39, (Vl (Vs w3.2)), (Sl (Kl (Ki .i64)) v3.2)), (9, (Vl (Vs w3.2)), (Sl (Kl (Ki .i64)) v3.2))] (K := (Kl (Ki .i64))) (xs := v3.2) (by decide) rfl ⟨⟨rfl, frz_it⟩, ⟨rfl, frz_it⟩, ⟨rfl, frz_it⟩, trivial⟩ (H' := [(Rw (Kl (Kl (Kl Kf))) 106 (Vs wa2) a2)]) frzH_refl) ?_
      refine tx_pick' (L' := [(8, (Sl Kf v3.1)), (9, (Sl (Kl (Ki .i64)) v3.2)), (10, (Vl .nilIface))]) (H' := [(Rw (Kl (Kl (Kl Kf))) 106 (Vs wa2) a2)]) [0] (sub_cons rfl (sub_cons rfl (sub_cons rfl sub_nil))) (by decide) (pick_cons rfl pick_nil) ?_
      exact tx_ret3' Try.results123 rfl () (rv_tmp' rfl) (rv_tmp' rfl) (rv_tmp' rfl) rfl (List.Sublist.refl _)

def gogeom_DoorDeflate3 (k : Nat) (a0 : List (List (List (List Nat)))) (a1 : Int) : Option (((List (List (List (List Nat)))) × Int × Int) ⊕ ((List (List (List (List Nat)))) × (List Nat) × (List (List Int)))) :=
  (gogeom_deflate3 k a0 a1) >>= fun r9 =>
  match r9 with
    | (.inl y1) =>
      (some (.inl (y1.1, y1.2.1, y1.2.2)))
    | (.inr y1) =>
      (some (.inr (y1.1, y1.2.1, y1.2.2)))
def gogeom_DoorDeflate3_r (wa0 : Gs) (a0 : List (List (List (List Nat)))) (a1 : Int) (out : ((List (List (List (List Nat)))) × Int × Int) ⊕ ((List (List (List (List Nat)))) × (List Nat) × (List (List Int)))) (w : Unit) : SV := match out with
  | (.inl y) => (Tu [(Vl (.slice none 0 0)), (Vl (.slice none 0 0)), (If 225 (Ag [(Vl (.int .i64 y.2.1)), (Vl (.int .i64 y.2.2))]))])
  | (.inr y) => (Tu [(Sl Kf y.2.1), (Sl (Kl (Ki .i64)) y.2.2), (Vl .nilIface)])
def gogeom_DoorDeflate3_h (wa0 : Gs) (a0 : List (List (List (List Nat)))) (a1 : Int) (out : ((List (List (List (List Nat)))) × Int × Int) ⊕ ((List (List (List (List Nat)))) × (List Nat) × (List (List Int)))) (w : Unit) : List Res := match out with
  | (.inl y) => [(Rw (Kl (Kl (Kl Kf))) 106 (Vs wa0) y.1)]
  | (.inr y) => [(Rw (Kl (Kl (Kl Kf))) 106 (Vs wa0) y.1)]

theorem gogeom_DoorDeflate3_sim {k : Nat} {wa0 : Gs} (a0 : List (List (List (List Nat)))) (a1 : Int) {out : ((List (List (List (List Nat)))) × Int × Int) ⊕ ((List (List (List (List Nat)))) × (List Nat) × (List (List Int)))} (hp : gogeom_DoorDeflate3 k a0 a1 = some out) : Go.Sx.Fn Try.prog 90 [(Vl (Vs wa0)), (Vl (.int .i64 a1))] [(Rw (Kl (Kl (Kl Kf))) 106 (Vs wa0) a0)] (fun w => gogeom_DoorDeflate3_r wa0 a0 a1 out w) (fun w => gogeom_DoorDeflate3_h wa0 a0 a1 out w) := by
  unfold gogeom_DoorDeflate3 at hp
  refine fn_of Try.func90 rfl Try.ntmps90 rfl fun E hM => ?_
  refine cx_seq' fun K1 hK1 => ?_
  refine cx_region' ?_
  refine sx_rd' (rd_assign' rfl) rfl rfl (wt_none' rfl) ?_
  refine sx_rd' (rd_assign' rfl) rfl rfl (wt_none' rfl) ?_
  refine sx_rd' (rd_assign' rfl) rfl rfl (wt_none' rfl) ?_
  refine sx_nil' ?_
  show TX E K1 _
  refine tx_k' hK1 ?_
  refine cx_seq' fun K2 hK2 => ?_
  refine cx_region' ?_
  refine sx_rd' (rd_move' rfl) rfl rfl (wt_none' rfl) ?_
  refine sx_rd' (rd_move' rfl) rfl rfl (wt_none' rfl) ?_
  obtain ⟨r9, hr9, hp⟩ := bind_some hp
  rcases r9 with y1 | y1
  · dsimp only at hp
    refine sx_ox' (ox_callg' (ent_fn' Try.func123 isn123 rfl rfl) (gogeom_deflate3_sim _ _ hr9 : Go.Sx.Fn Try.prog 123 [(Vl (.slice none 0 0)), (Vl (.slice none 0 0)), (Vl (Vs wa0)), (Vl (.int .i64 a1))] [(Rw (Kl (Kl (Kl Kf))) 106 (Vs wa0) a0)] (fun x : Unit => (Tu [(Vl (.slice none 0 0)), (Vl (.slice none 0 0)), (If 225 (Ag [(Vl (.int .i64 y1.2.1)), (Vl (.int .i64 y1.2.2))]))])) (fun x => [(Rw (Kl (Kl (Kl Kf))) 106 (Vs wa0) y1.1)])) [0] [] (by decide) (pick_cons rfl pick_nil) pick_nil (Hn := fun x : Unit => [(Rw (Kl (Kl (Kl Kf))) 106 (Vs wa0) y1.1)]) (fun _ => rfl) rfl rfl) (wt_none' rfl) fun ⟨⟩ => ?_
    refine sx_rd' (rd_extract' rfl rfl) rfl rfl (wt_none' rfl) ?_
    refine sx_rd' (rd_extract' rfl rfl) rfl rfl (wt_none' rfl) ?_
    refine sx_rd' (rd_extract' rfl rfl) rfl rfl (wt_none' rfl) ?_
    refine sx_rd' (rd_assign' rfl) rfl rfl (wt_none' rfl) ?_
    refine sx_rd' (rd_assign' rfl) rfl rfl (wt_none' rfl) ?_
    refine sx_rd' (rd_assign' rfl) rfl rfl (wt_none' rfl) ?_
    refine sx_nil' ?_
    show TX E K2 _
    refine tx_k' hK2 ?_
    refine cx_retc' ?_
    replace hp := Option.some.inj hp
    subst hp
    refine tx_pick' (L' := [(4, (Vl (.slice none 0 0))), (5, (Vl (.slice none 0 0))), (6, (If 225 (Ag [(Vl (.int .i64 y1.2.1)), (Vl (.int .i64 y1.2.2))])))]) (H' := [(Rw (Kl (Kl (Kl Kf))) 106 (Vs wa0) y1.1)]) [0] (sub_cons rfl (sub_cons rfl (sub_cons rfl sub_nil))) (by decide) (pick_cons rfl pick_nil) ?_
    exact tx_ret3' Try.results90 rfl () (rv_tmp' rfl) (rv_tmp' rfl) (rv_tmp' rfl) rfl (List.Sublist.refl _)
  · dsimp only at hp
    refine sx_ox' (ox_callg' (ent_fn' Try.func123 isn123 rfl rfl) (gogeom_deflate3_sim _ _ hr9 : Go.Sx.Fn Try.prog 123 [(Vl (.slice none 0 0)), (Vl (.slice none 0 0)), (Vl (Vs wa0)), (Vl (.int .i64 a1))] [(Rw (Kl (Kl (Kl Kf))) 106 (Vs wa0) a0)] (fun x : Unit => (Tu [(Sl Kf y1.2.1), (Sl (Kl (Ki .i64)) y1.2.2), (Vl .nilIface)])) (fun x => [(Rw (Kl (Kl (Kl Kf))) 106 (Vs wa0) y1.1)])) [0] [] (by decide) (pick_cons rfl pick_nil) pick_nil (Hn := fun x : Unit => [(Rw (Kl (Kl (Kl Kf))) 106 (Vs wa0) y1.1)]) (fun _ => rfl) rfl rfl) (wt_none' rfl) fun ⟨⟩ => ?_
    refine sx_rd' (rd_extract' rfl rfl) rfl rfl (wt_none' rfl) ?_
    refine sx_rd' (rd_extract' rfl rfl) rfl rfl (wt_none' rfl) ?_
    refine sx_rd' (rd_extract' rfl rfl) rfl rfl (wt_none' rfl) ?_
    refine sx_rd' (rd_assign' rfl) rfl rfl (wt_none' rfl) ?_
    refine sx_rd' (rd_assign' rfl) rfl rfl (wt_none' rfl) ?_
    refine sx_rd' (rd_assign' rfl) rfl rfl (wt_none' rfl) ?_
    refine sx_nil' ?_
    show TX E K2 _
    refine tx_k' hK2 ?_
    refine cx_retc' ?_
    replace hp := Option.some.inj hp
    subst hp
    refine tx_pick' (L' := [(4, (Sl Kf y1.2.1)), (5, (Sl (Kl (Ki .i64)) y1.2.2)), (6, (Vl .nilIface))]) (H' := [(Rw (Kl (Kl (Kl Kf))) 106 (Vs wa0) y1.1)]) [0] (sub_cons rfl (sub_cons rfl (sub_cons rfl sub_nil))) (by decide) (pick_cons rfl pick_nil) ?_
    exact tx_ret3' Try.results90 rfl () (rv_tmp' rfl) (rv_tmp' rfl) (rv_tmp' rfl) rfl (List.Sublist.refl _)

def impl_intss (k : Nat)  : Option (Unit) :=
  some ()

theorem impl_intss_sim {k : Nat}   {out : Unit} (hp : impl_intss k = some out) : Go.Sx.Fn Try.prog 92 [(Vl (.slice none 0 0))] [] (fun w : Unit => (Vl (.slice none 0 0))) (fun w => []) := by
  unfold impl_intss at hp
  refine fn_of Try.func92 rfl Try.ntmps92 rfl fun E hM => ?_
  refine cx_seq' fun K1 hK1 => ?_
  refine cx_region' ?_
  refine sx_rd' (rd_assign' rfl) rfl rfl (wt_none' rfl) ?_
  refine sx_nil' ?_
  show TX E K1 _
  refine tx_k' hK1 ?_
  refine cx_seq' fun K2 hK2 => ?_
  refine cx_region' ?_
  refine sx_rd' (rd_assign' rfl) rfl rfl (wt_none' rfl) ?_
  refine sx_nil' ?_
  show TX E K2 _
  refine tx_k' hK2 ?_
  refine cx_seq' fun K3 hK3 => ?_
  refine cx_seq' fun K4 hK4 => ?_
  refine cx_region' ?_
  refine sx_rd' (rd_move' rfl) rfl rfl (wt_none' rfl) ?_
  refine sx_rd' (rd_lenv' rfl Try.underlying24) rfl rfl (wt_none' rfl) ?_
  refine sx_rd' (rd_move' rfl) rfl rfl (wt_none' rfl) ?_
  refine sx_nil' ?_
  show TX E K4 _
  refine tx_k' hK4 ?_
  refine cx_block' ?_
  refine tx_loop' ?_
  refine tx_round' ?_
  refine cx_seq' fun K5 hK5 => ?_
  refine cx_region' ?_
  refine sx_rd' (rd_bin' rfl rfl eg_int ru_lss) rfl rfl (wt_none' rfl) ?_
  refine sx_nil' ?_
  show TX E K5 _
  refine tx_k' hK5 ?_
  refine cx_seq' fun K6 hK6 => ?_
  refine cx_cond_f' rfl rfl ?_
  refine cx_exit' ?_
  show TX E K3 _
  refine tx_k' hK3 ?_
  refine cx_seq' fun K7 hK7 => ?_
  refine cx_region' ?_
  refine sx_rd' (rd_move' rfl) rfl rfl (wt_none' rfl) ?_
  refine sx_rd' (rd_assign' rfl) rfl rfl (wt_none' rfl) ?_
  refine sx_nil' ?_
  show TX E K7 _
  refine tx_k' hK7 ?_
  refine cx_retc' ?_
  replace hp := Option.some.inj hp
  subst hp
  refine tx_pick' (L' := [(2, (Vl (.slice none 0 0)))]) (H' := []) [] (sub_cons rfl sub_nil) (by decide) pick_nil ?_
  exact tx_ret1' Try.results92 rfl () (rv_tmp' rfl) (List.Sublist.refl _)

def impl_intss_v2_l1s (a0 : List (List Int)) (k : Nat) (rec1 : ((List (List Int)) × Int) → Option ((List (List Int)))) (x1 : List (List Int)) (x2 : Int) : Option ((List (List Int))) :=
  br (decide (x2 < (a0.length : Int)))
    ((idx a0 x2) >>= fun r10 =>
    (impl_ints_v2 k r10) >>= fun r14 =>
    (apd 24 x1 ([r14])) >>= fun r16 =>
    rec1 (r16, (iadd .i64 x2 1)))
    (some x1)
def impl_intss_v2_l1 (a0 : List (List Int)) : Nat → ((List (List Int)) × Int) → Option ((List (List Int)))
  | 0, _ => none
  | k + 1, v => impl_intss_v2_l1s a0 k (impl_intss_v2_l1 a0 k) v.1 v.2
def impl_intss_v2 (k : Nat) (a0 : List (List Int)) : Option ((List (List Int))) :=
  (impl_intss_v2_l1 a0 k ([], 0)) >>= fun v2 =>
  some v2

theorem impl_intss_v2_sim {k : Nat}  (a0 : List (List Int)) {out : (List (List Int))} (hp : impl_intss_v2 k a0 = some out) : Go.Sx.Fn Try.prog 92 [(Sl (Kl (Ki .i64)) a0)] [] (fun w : Unit => (Sl (Kl (Ki .i64)) out)) (fun w => []) := by
  unfold impl_intss_v2 at hp
  refine fn_of Try.func92 rfl Try.ntmps92 rfl fun E hM => ?_
  refine cx_seq' fun K1 hK1 => ?_
  refine cx_region' ?_
  refine sx_rd' (rd_assign' rfl) rfl rfl (wt_none' rfl) ?_
  refine sx_nil' ?_
  show TX E K1 _
  refine tx_k' hK1 ?_
  refine cx_seq' fun K2 hK2 => ?_
  refine cx_region' ?_
  refine sx_rd' (rd_assign' rfl) rfl rfl (wt_none' rfl) ?_
  refine sx_nil' ?_
  show TX E K2 _
  refine tx_k' hK2 ?_
  refine cx_seq' fun K3 hK3 => ?_
  refine cx_seq' fun K4 hK4 => ?_
  refine cx_region' ?_
  refine sx_rd' (rd_move' rfl) rfl rfl (wt_none' rfl) ?_
  refine sx_rd' (rd_len' rfl Try.underlying24) rfl rfl (wt_none' rfl) ?_
  refine sx_rd' (rd_move' rfl) rfl rfl (wt_none' rfl) ?_
  refine sx_nil' ?_
  show TX E K4 _
  refine tx_k' hK4 ?_
  refine cx_block' ?_
  obtain ⟨v2, hy1, hp⟩ := bind_some hp
  refine tx_nilrow' (Kl (Ki .i64)) 23 ?_
  refine cx_loopg' (F := impl_intss_v2_l1 a0) (G := fun k R v => impl_intss_v2_l1s a0 k R v.1 v.2) (x := ([], 0)) (gh := (none, 0, 0)) (fun (v1 : (List (List Int)) × Int) (w1 : Gs) => (⟨19, [], [(3, (Vl (Vs w1))), (6, (Sl (Kl (Ki .i64)) a0)), (7, (Vl (.int .i64 (a0.length : Int)))), (8, (Vl (.int .i64 v1.2)))], [(Rw (Kl (Ki .i64)) 23 (Vs w1) v1.1)]⟩ : St)) (fun (v2 : (List (List Int))) => Zg E (Exit.exit 0) (fun (w2 : Gs) => (⟨19, [], [(3, (Vl (Vs w2)))], [(Rw (Kl (Ki .i64)) 23 (Vs w2) v2)]⟩ : St))) (fun _ => rfl) (fun _ _ => rfl) ?_ hy1 (tx_to' rfl [0] (sub_cons rfl (sub_cons rfl (sub_cons rfl (sub_cons rfl sub_nil)))) (by decide) (pick_cons rfl pick_nil)) ?_
  · clear hp hy1
    clear v2
    intro k rec1 KY1 ih1
    rintro ⟨x1, x2⟩ g901 y1 hp
    replace hp : impl_intss_v2_l1s a0 k rec1 x1 x2 = some y1 := hp
    unfold impl_intss_v2_l1s at hp
    refine cx_seq' fun K9 hK9 => ?_
    refine cx_region' ?_
    refine sx_rd' (rd_bin' rfl rfl eg_int ru_lss) rfl rfl (wt_none' rfl) ?_
    refine sx_nil' ?_
    show TX E K9 _
    refine tx_k' hK9 ?_
    refine cx_seq' fun K10 hK10 => ?_
    refine cx_cond' rfl (fun h3 => ?_) (fun h3 => ?_)
    · replace hp := (br_t h3).symm.trans hp
      refine cx_skip' ?_
      show TX E K10 _
      refine tx_k' hK10 ?_
      refine cx_seq' fun K11 hK11 => ?_
      refine cx_block' ?_
      refine cx_seq' fun K12 hK12 => ?_
      refine cx_region' ?_
      obtain ⟨r10, hr10, hp⟩ := bind_some hp
      refine sx_rd' (rd_at' (K := (Kl (Ki .i64))) rfl rfl hr10 Try.underlying24 info23) rfl rfl (wt_none' rfl) ?_
      refine sx_rd' (rd_load_pt' rfl rfl flat23) rfl rfl (wt_none' rfl) ?_
      refine sx_rd' (rd_assign' rfl) rfl rfl (wt_none' rfl) ?_
      refine sx_nil' ?_
      show TX E K12 _
      refine tx_k' hK12 ?_
      refine cx_region' ?_
      refine sx_rd' (rd_move' rfl) rfl rfl (wt_none' rfl) ?_
      refine sx_rd' (rd_move' rfl) rfl rfl (wt_none' rfl) ?_
      obtain ⟨r14, hr14, hp⟩ := bind_some hp
      refine sx_ox' (ox_calln' (ent_fn' Try.func68 isn68 rfl rfl) (impl_ints_v2_sim _ hr14 : Go.Sx.Fn Try.prog 68 [(Sl (Ki .i64) r10)] [] (fun x : Unit => (Sl (Ki .i64) r14)) (fun x => [])) (Hn := fun x : Unit => [(Rw (Kl (Ki .i64)) 23 (Vs g901) x1)]) (fun _ => rfl) rfl rfl) (wt_none' rfl) fun ⟨⟩ => ?_
      refine sx_ox' (ox_rowlit' (K := (Kl (Ki .i64))) (xs := [r14]) (qs := [(0, [(Sl (Ki .i64) r14)])]) ⟨rfl, ⟨_, rfl, (lv_sl _ _)⟩, trivial⟩ Try.underlying24 info23 rfl rfl rfl rfl rfl (by kernel_rfl) rfl rfl rfl) (wt_none' rfl) fun g15 => ?_
      obtain ⟨r16, hr16, hp⟩ := bind_some hp
      refine sx_ox' (ox_append' (K := (Kl (Ki .i64))) (i := 1) (xs := x1) (ys := ([r14])) rfl rfl rfl (sr_row' (j := 0) rfl rfl rfl Try.underlying24) hr16 Try.underlying24 info23 rfl rfl rfl (H' := [(Rw (Kl (Ki .i64)) 23 (Vs g15) ([r14]))]) rfl) (wt_none' rfl) fun g16 => ?_
      refine sx_rd' (rd_assign' rfl) rfl rfl (wt_none' rfl) ?_
      refine sx_nil' ?_
      show TX E K11 _
      refine tx_k' hK11 ?_
      refine cx_region' ?_
      refine sx_rd' (rd_bin' rfl rfl eg_int ru_add) rfl rfl (wt_none' rfl) ?_
      refine sx_rd' (rd_move' rfl) rfl rfl (wt_none' rfl) ?_
      refine sx_nil' ?_
      show TX E (KY1 _) _
      exact tx_pick' [0] (sub_cons rfl (sub_cons rfl (sub_cons rfl (sub_cons rfl sub_nil)))) (by decide) (pick_cons rfl pick_nil) (ih1 (r16, (iadd .i64 x2 1)) g16 _ hp)
    · replace hp := (br_f h3).symm.trans hp
      refine cx_exit' ?_
      replace hp := Option.some.inj hp
      subst hp
      show TX E (Zg E (Exit.exit 0) _ (Exit.exit 0)) _
      exact tx_zend' g901 rfl [0] (sub_cons rfl sub_nil) (by decide) (pick_cons rfl pick_nil)
  · refine zg_out fun w2 => ?_
    show TX E K3 _
    refine tx_k' hK3 ?_
    refine cx_seq' fun K13 hK13 => ?_
    refine cx_region' ?_
    refine sx_rd' (rd_move' rfl) rfl rfl (wt_none' rfl) ?_
    refine sx_rd' (rd_assign' rfl) rfl rfl (wt_none' rfl) ?_
    refine sx_nil' ?_
    show TX E K13 _
    refine tx_k' hK13 ?_
    refine cx_retc' ?_
    replace hp := Option.some.inj hp
    subst hp
    refine tx_fz' (frz_row 0 [(3, (Vl (Vs w2)), (Sl (Kl (Ki .i64)) v2)), (18, (Vl (Vs w2)), (Sl (Kl (Ki .i64)) v2)), (2, (Vl (Vs w2)), (Sl (Kl (Ki .i64)) v2))] (K := (Kl (Ki .i64))) (xs := v2) (by decide) rfl ⟨⟨rfl, frz_it⟩, ⟨rfl, frz_it⟩, ⟨rfl, frz_it⟩, trivial⟩ (H' := []) frzH_refl) ?_
    refine tx_pick' (L' := [(2, (Sl (Kl (Ki .i64)) v2))]) (H' := []) [] (sub_cons rfl sub_nil) (by decide) pick_nil ?_
    exact tx_ret1' Try.results92 rfl () (rv_tmp' rfl) (List.Sublist.refl _)

def impl_Deflate3 (k : Nat) (a0 : List (List (List (List Nat)))) (a1 : Int) : Option ((List Nat) × (List (List Int)) × Bool) :=
  (impl_coords3 k a0) >>= fun r13 =>
  (gogeom_DoorDeflate3 k r13 a1) >>= fun r15 =>
  match r15 with
    | (.inl y2) =>
      ((impl_floats_v2 k) >>= fun r20 =>
      (impl_intss k) >>= fun r22 =>
      some (r20, [], false))
    | (.inr y2) =>
      ((impl_floats k y2.2.1) >>= fun r20 =>
      (impl_intss_v2 k y2.2.2) >>= fun r22 =>
      some (r20, r22, true))

theorem impl_Deflate3_sim {k : Nat}  (a0 : List (List (List (List Nat)))) (a1 : Int) {out : (List Nat) × (List (List Int)) × Bool} (hp : impl_Deflate3 k a0 a1 = some out) : Go.Sx.Fn Try.prog 43 [(Sl (Kl (Kl (Kl Kf))) a0), (Vl (.int .i64 a1))] [] (fun w : Unit => (Tu [(Sl Kf out.1), (Sl (Kl (Ki .i64)) out.2.1), (Vl (.bool out.2.2))])) (fun w => []) := by
  unfold impl_Deflate3 at hp
  refine fnD_of Try.func43 rfl Try.ntmps43 rfl fun E hM => ?_
  refine cx_seq' fun K1 hK1 => ?_
  refine cx_region' ?_
  refine sx_ox' (ox_alloc' info22 rfl rfl rfl rfl (l := [(Vl (.slice none 0 0))]) rfl) (wt_none' rfl) fun q4 => ?_
  refine sx_ox' (ox_alloc' info24 rfl rfl rfl rfl (l := [(Vl (.slice none 0 0))]) rfl) (wt_none' rfl) fun q5 => ?_
  refine sx_ox' (ox_alloc' info4 rfl rfl rfl rfl (l := [(Vl (.bool false))]) rfl) (wt_none' rfl) fun q6 => ?_
  refine sx_nil' ?_
  show TX E K1 _
  refine tx_k' hK1 ?_
  refine cx_seq' fun K2 hK2 => ?_
  refine cx_region' ?_
  refine sx_rd' (rd_mkfunc' (us := [.pointer (some q4), .pointer (some q5), .pointer (some q6)]) rfl) rfl rfl (wt_none' rfl) ?_
  refine sx_ox' (ox_defer' rfl rfl) (wt_none' rfl) fun _ => ?_
  refine sx_nil' ?_
  show TX E K2 _
  refine tx_k' hK2 ?_
  refine cx_seq' fun K3 hK3 => ?_
  refine cx_region' ?_
  refine sx_rd' (rd_move' rfl) rfl rfl (wt_none' rfl) ?_
  obtain ⟨r13, hr13, hp⟩ := bind_some hp
  refine sx_ox' (ox_calln' (ent_fn' Try.func91 isn91 rfl rfl) (impl_coords3_sim _ hr13 : Go.Sx.Fn Try.prog 91 [(Sl (Kl (Kl (Kl Kf))) a0)] [] (fun x : Gs => (Vl (Vs x))) (fun x => [(Rw (Kl (Kl (Kl Kf))) 106 (Vs x) r13)])) (Hn := fun x : Gs => [(Rw (Kl (Kl (Kl Kf))) 106 (Vs x) r13), ⟨.pointer (some q6), [(Vl (.bool false))], 4, none⟩, ⟨.pointer (some q5), [(Vl (.slice none 0 0))], 24, none⟩, ⟨.pointer (some q4), [(Vl (.slice none 0 0))], 22, none⟩]) (fun _ => rfl) rfl rfl) (wt_none' rfl) fun g13 => ?_
  refine sx_rd' (rd_move' rfl) rfl rfl (wt_none' rfl) ?_
  obtain ⟨r15, hr15, hp⟩ := bind_some hp
  rcases r15 with y2 | y2
  · dsimp only at hp
    refine sx_ox' (ox_callg' (ent_fn' Try.func90 isn90 rfl rfl) (gogeom_DoorDeflate3_sim _ _ hr15 : Go.Sx.Fn Try.prog 90 [(Vl (Vs g13)), (Vl (.int .i64 a1))] [(Rw (Kl (Kl (Kl Kf))) 106 (Vs g13) r13)] (fun x : Unit => (Tu [(Vl (.slice none 0 0)), (Vl (.slice none 0 0)), (If 225 (Ag [(Vl (.int .i64 y2.2.1)), (Vl (.int .i64 y2.2.2))]))])) (fun x => [(Rw (Kl (Kl (Kl Kf))) 106 (Vs g13) y2.1)])) [0] [1, 2, 3] (by decide) (pick_cons rfl pick_nil) (pick_cons rfl (pick_cons rfl (pick_cons rfl pick_nil))) (Hn := fun x : Unit => [(Rw (Kl (Kl (Kl Kf))) 106 (Vs g13) y2.1), ⟨.pointer (some q6), [(Vl (.bool false))], 4, none⟩, ⟨.pointer (some q5), [(Vl (.slice none 0 0))], 24, none⟩, ⟨.pointer (some q4), [(Vl (.slice none 0 0))], 22, none⟩]) (fun _ => rfl) rfl rfl) (wt_none' rfl) fun ⟨⟩ => ?_
    refine sx_rd' (rd_move' rfl) rfl rfl (wt_none' rfl) ?_
    refine sx_rd' (rd_extract' rfl rfl) rfl rfl (wt_none' rfl) ?_
    refine sx_rd' (rd_extract' rfl rfl) rfl rfl (wt_none' rfl) ?_
    refine sx_rd' (rd_extract' rfl rfl) rfl rfl (wt_none' rfl) ?_
    refine sx_rd' (rd_assign' rfl) rfl rfl (wt_none' rfl) ?_
    refine sx_rd' (rd_assign' rfl) rfl rfl (wt_none' rfl) ?_
    refine sx_rd' (rd_assign' rfl) rfl rfl (wt_none' rfl) ?_
    refine sx_nil' ?_
    show TX E K3 _
    refine tx_k' hK3 ?_
    refine cx_seq' fun K4 hK4 => ?_
    refine cx_plana' [] [(6, 1), (7, 1), (8, 1)] [(0, 1), (2, 1), (4, 2)] 6 #[true, false, true, false, true, false, false, false, false] mixed (by kernel_rfl) ?_
    refine px_rd' rfl (rd_move' rfl) rfl rfl (wt_none' rfl) ?_
    refine px_rd' rfl (rd_move' rfl) rfl rfl (wt_none' rfl) ?_
    refine px_rb' rfl (rb_move' rfl) rfl rfl (wt_none' rfl) ?_
    refine px_nil' ?_
    show AX E _ _ _ _ _ _ _ _
    obtain ⟨r20, hr20, hp⟩ := bind_some hp
    obtain ⟨r22, hr22, hp⟩ := bind_some hp
    refine ax_node (f' := 0) #[true, true, true, true, true, true, true, true, true] (fun (v10 : Addr × Addr × Addr) => (⟨25, [⟨.fn (.func 89) ⟨[.pointer (some q4), .pointer (some q5), .pointer (some q6)]⟩, #[]⟩], [(4, (Vl (.pointer (some v10.1)))), (5, (Vl (.pointer (some v10.2.1)))), (6, (Vl (.pointer (some v10.2.2))))], [⟨.pointer (some v10.1), [(Sl Kf r20)], 22, none⟩, ⟨.pointer (some v10.2.1), [(Vl (.slice none 0 0))], 24, none⟩, ⟨.pointer (some v10.2.2), [(Vl (.bool false))], 4, none⟩]⟩ : St)) ?_ ?_
    · rintro ⟨q9028, q9029, q9030⟩
      refine ax_nil (by kernel_rfl) ?_
      show TX E K4 _
      refine tx_k' hK4 ?_
      refine cx_retc' ?_
      replace hp := Option.some.inj hp
      subst hp
      refine tx_leave' (.inl rfl) rfl idle89 rfl Try.func89 isn89 rfl ?_
      refine tx_pick' (L' := [(4, (Vl (.pointer (some q9028)))), (5, (Vl (.pointer (some q9029)))), (6, (Vl (.pointer (some q9030))))]) (H' := [⟨.pointer (some q9028), [(Sl Kf r20)], 22, none⟩, ⟨.pointer (some q9029), [(Vl (.slice none 0 0))], 24, none⟩, ⟨.pointer (some q9030), [(Vl (.bool false))], 4, none⟩]) [0, 1, 2] (sub_cons rfl (sub_cons rfl (sub_cons rfl sub_nil))) (by decide) (pick_cons rfl (pick_cons rfl (pick_cons rfl pick_nil))) ?_
      exact tx_ret3' Try.results43 rfl () (rv_cell' (i := 0) (o := 0) rfl ⟨rfl, rfl, rfl, rfl⟩ rfl flat22) (rv_imp' (x := (Vl (.slice none 0 0))) (y := (Sl (Kl (Ki .i64)) [])) (rv_cell' (i := 1) (o := 0) rfl ⟨rfl, rfl, rfl, rfl⟩ rfl flat24) imp_nil) (rv_cell' (i := 2) (o := 0) rfl ⟨rfl, rfl, rfl, rfl⟩ rfl flat4) rfl (List.nil_sublist _)
    intro hN11
    refine ax_node (f' := 1) #[true, true, true, true, true, true, true, true, false] (fun (v9 : Addr × Addr × Addr) => (⟨25, [⟨.fn (.func 89) ⟨[.pointer (some q4), .pointer (some q5), .pointer (some q6)]⟩, #[]⟩], [(4, (Vl (.pointer (some v9.1)))), (5, (Vl (.pointer (some v9.2.1)))), (6, (Vl (.pointer (some v9.2.2)))), (24, (Vl (.bool false)))], [⟨.pointer (some v9.1), [(Sl Kf r20)], 22, none⟩, ⟨.pointer (some v9.2.1), [(Vl (.slice none 0 0))], 24, none⟩, ⟨.pointer (some v9.2.2), [(Vl (.bool false))], 4, none⟩]⟩ : St)) ?_ ?_
    · rintro ⟨q9025, q9026, q9027⟩
      refine ax_all (i := 8) (is := []) (by kernel_rfl) (all_cons ?_ all_nil)
      · refine nx_oxv (last := #[true, true, true, true, true, true, true, true, true]) rfl (oxv_store (i := 2) (o := 0) rfl rfl (lv_vl rfl rfl) ⟨rfl, rfl, rfl, rfl⟩ rfl info4 rfl (H' := [⟨.pointer (some q9025), [(Sl Kf r20)], 22, none⟩, ⟨.pointer (some q9026), [(Vl (.slice none 0 0))], 24, none⟩, ⟨.pointer (some q9027), [(Vl (.bool false))], 4, none⟩]) rfl) rfl rfl bo_nil (wt_none' rfl) rfl fun _ => ?_
        exact tx_pick' [0, 1, 2] (sub_cons rfl (sub_cons rfl (sub_cons rfl sub_nil))) (by decide) (pick_cons rfl (pick_cons rfl (pick_cons rfl pick_nil))) (hN11 (q9025, q9026, q9027))
    intro hN10
    refine ax_node (f' := 2) #[true, true, true, true, true, true, true, false, false] (fun (v7 : Addr × Addr × Addr) => (⟨25, [⟨.fn (.func 89) ⟨[.pointer (some q4), .pointer (some q5), .pointer (some q6)]⟩, #[]⟩], [(4, (Vl (.pointer (some v7.1)))), (5, (Vl (.pointer (some v7.2.1)))), (6, (Vl (.pointer (some v7.2.2)))), (22, (Vl (.slice none 0 0))), (24, (Vl (.bool false)))], [⟨.pointer (some v7.1), [(Sl Kf r20)], 22, none⟩, ⟨.pointer (some v7.2.1), [(Vl (.slice none 0 0))], 24, none⟩, ⟨.pointer (some v7.2.2), [(Vl (.bool false))], 4, none⟩]⟩ : St)) ?_ ?_
    · rintro ⟨q9019, q9020, q9021⟩
      refine ax_all (i := 7) (is := []) (by kernel_rfl) (all_cons ?_ all_nil)
      · refine nx_oxv (last := #[true, true, true, true, true, true, true, true, false]) rfl (oxv_store (i := 1) (o := 0) rfl rfl (lv_vl rfl rfl) ⟨rfl, rfl, rfl, rfl⟩ rfl info24 rfl (H' := [⟨.pointer (some q9019), [(Sl Kf r20)], 22, none⟩, ⟨.pointer (some q9020), [(Vl (.slice none 0 0))], 24, none⟩, ⟨.pointer (some q9021), [(Vl (.bool false))], 4, none⟩]) rfl) rfl rfl bo_nil (wt_none' rfl) rfl fun _ => ?_
        exact tx_pick' [0, 1, 2] (sub_cons rfl (sub_cons rfl (sub_cons rfl (sub_cons rfl sub_nil)))) (by decide) (pick_cons rfl (pick_cons rfl (pick_cons rfl pick_nil))) (hN10 (q9019, q9020, q9021))
    intro hN8
    refine ax_node (f' := 2) #[true, true, true, true, true, false, true, true, false] (fun (v8 : Addr × Addr × Addr) => (⟨25, [⟨.fn (.func 89) ⟨[.pointer (some q4), .pointer (some q5), .pointer (some q6)]⟩, #[]⟩], [(4, (Vl (.pointer (some v8.1)))), (5, (Vl (.pointer (some v8.2.1)))), (6, (Vl (.pointer (some v8.2.2)))), (23, (If 225 (Ag [(Vl (.int .i64 y2.2.1)), (Vl (.int .i64 y2.2.2))])))], [⟨.pointer (some v8.1), [(Sl Kf r20)], 22, none⟩, ⟨.pointer (some v8.2.1), [(Vl (.slice none 0 0))], 24, none⟩, ⟨.pointer (some v8.2.2), [(Vl (.bool false))], 4, none⟩]⟩ : St)) ?_ ?_
    · rintro ⟨q9022, q9023, q9024⟩
      refine ax_rd (ix := 5) (last := #[true, true, true, true, true, true, true, true, false]) (by kernel_rfl) rfl (rd_binf' rfl rfl (bf_if (fun _ _ => by kernel_rfl) nil_eql103_if225)) rfl rfl (wt_none' rfl) rfl ?_
      exact tx_pick' [0, 1, 2] (sub_cons rfl (sub_cons rfl (sub_cons rfl (sub_cons rfl sub_nil)))) (by decide) (pick_cons rfl (pick_cons rfl (pick_cons rfl pick_nil))) (hN10 (q9022, q9023, q9024))
    intro hN9
    refine ax_node (f' := 3) #[true, true, true, true, true, true, false, false, false] (fun (v5 : Addr × Addr × Addr) => (⟨25, [⟨.fn (.func 89) ⟨[.pointer (some q4), .pointer (some q5), .pointer (some q6)]⟩, #[]⟩], [(4, (Vl (.pointer (some v5.1)))), (5, (Vl (.pointer (some v5.2.1)))), (6, (Vl (.pointer (some v5.2.2)))), (20, (Sl Kf r20)), (22, (Vl (.slice none 0 0))), (24, (Vl (.bool false)))], [⟨.pointer (some v5.1), [(Vl (.slice none 0 0))], 22, none⟩, ⟨.pointer (some v5.2.1), [(Vl (.slice none 0 0))], 24, none⟩, ⟨.pointer (some v5.2.2), [(Vl (.bool false))], 4, none⟩]⟩ : St)) ?_ ?_
    · rintro ⟨q9013, q9014, q9015⟩
      refine ax_all (i := 6) (is := []) (by kernel_rfl) (all_cons ?_ all_nil)
      · refine nx_oxv (last := #[true, true, true, true, true, true, true, false, false]) rfl (oxv_store (i := 0) (o := 0) rfl rfl (lv_sl _ _) ⟨rfl, rfl, rfl, rfl⟩ rfl info22 rfl (H' := [⟨.pointer (some q9013), [(Sl Kf r20)], 22, none⟩, ⟨.pointer (some q9014), [(Vl (.slice none 0 0))], 24, none⟩, ⟨.pointer (some q9015), [(Vl (.bool false))], 4, none⟩]) rfl) rfl rfl bo_nil (wt_none' rfl) rfl fun _ => ?_
        exact tx_pick' [0, 1, 2] (sub_cons rfl (sub_cons rfl (sub_cons rfl (sub_cons rfl (sub_cons rfl sub_nil))))) (by decide) (pick_cons rfl (pick_cons rfl (pick_cons rfl pick_nil))) (hN8 (q9013, q9014, q9015))
    intro hN6
    refine ax_node (f' := 3) #[true, true, true, true, true, false, true, false, false] (fun (v6 : Addr × Addr × Addr) => (⟨25, [⟨.fn (.func 89) ⟨[.pointer (some q4), .pointer (some q5), .pointer (some q6)]⟩, #[]⟩], [(4, (Vl (.pointer (some v6.1)))), (5, (Vl (.pointer (some v6.2.1)))), (6, (Vl (.pointer (some v6.2.2)))), (22, (Vl (.slice none 0 0))), (23, (If 225 (Ag [(Vl (.int .i64 y2.2.1)), (Vl (.int .i64 y2.2.2))])))], [⟨.pointer (some v6.1), [(Sl Kf r20)], 22, none⟩, ⟨.pointer (some v6.2.1), [(Vl (.slice none 0 0))], 24, none⟩, ⟨.pointer (some v6.2.2), [(Vl (.bool false))], 4, none⟩]⟩ : St)) ?_ ?_
    · rintro ⟨q9016, q9017, q9018⟩
      refine ax_all (i := 5) (is := [7]) (by kernel_rfl) (all_cons ?_ (all_cons ?_ all_nil))
      · refine nx_rd (last := #[true, true, true, true, true, true, true, false, false]) rfl (rd_binf' rfl rfl (bf_if (fun _ _ => by kernel_rfl) nil_eql103_if225)) rfl rfl (wt_none' rfl) rfl ?_
        exact tx_pick' [0, 1, 2] (sub_cons rfl (sub_cons rfl (sub_cons rfl (sub_cons rfl (sub_cons rfl sub_nil))))) (by decide) (pick_cons rfl (pick_cons rfl (pick_cons rfl pick_nil))) (hN8 (q9016, q9017, q9018))
      · refine nx_oxv (last := #[true, true, true, true, true, false, true, true, false]) rfl (oxv_store (i := 1) (o := 0) rfl rfl (lv_vl rfl rfl) ⟨rfl, rfl, rfl, rfl⟩ rfl info24 rfl (H' := [⟨.pointer (some q9016), [(Sl Kf r20)], 22, none⟩, ⟨.pointer (some q9017), [(Vl (.slice none 0 0))], 24, none⟩, ⟨.pointer (some q9018), [(Vl (.bool false))], 4, none⟩]) rfl) rfl rfl bo_nil (wt_none' rfl) rfl fun _ => ?_
        exact tx_pick' [0, 1, 2] (sub_cons rfl (sub_cons rfl (sub_cons rfl (sub_cons rfl sub_nil)))) (by decide) (pick_cons rfl (pick_cons rfl (pick_cons rfl pick_nil))) (hN9 (q9016, q9017, q9018))
    intro hN7
    refine ax_node (f' := 4) #[true, true, true, true, true, false, false, false, false] (fun (v3 : Addr × Addr × Addr) => (⟨25, [⟨.fn (.func 89) ⟨[.pointer (some q4), .pointer (some q5), .pointer (some q6)]⟩, #[]⟩], [(4, (Vl (.pointer (some v3.1)))), (5, (Vl (.pointer (some v3.2.1)))), (6, (Vl (.pointer (some v3.2.2)))), (20, (Sl Kf r20)), (22, (Vl (.slice none 0 0))), (23, (If 225 (Ag [(Vl (.int .i64 y2.2.1)), (Vl (.int .i64 y2.2.2))])))], [⟨.pointer (some v3.1), [(Vl (.slice none 0 0))], 22, none⟩, ⟨.pointer (some v3.2.1), [(Vl (.slice none 0 0))], 24, none⟩, ⟨.pointer (some v3.2.2), [(Vl (.bool false))], 4, none⟩]⟩ : St)) ?_ ?_
    · rintro ⟨q907, q908, q909⟩
      refine ax_all (i := 5) (is := [6]) (by kernel_rfl) (all_cons ?_ (all_cons ?_ all_nil))
      · refine nx_rd (last := #[true, true, true, true, true, true, false, false, false]) rfl (rd_binf' rfl rfl (bf_if (fun _ _ => by kernel_rfl) nil_eql103_if225)) rfl rfl (wt_none' rfl) rfl ?_
        exact tx_pick' [0, 1, 2] (sub_cons rfl (sub_cons rfl (sub_cons rfl (sub_cons rfl (sub_cons rfl (sub_cons rfl sub_nil)))))) (by decide) (pick_cons rfl (pick_cons rfl (pick_cons rfl pick_nil))) (hN6 (q907, q908, q909))
      · refine nx_oxv (last := #[true, true, true, true, true, false, true, false, false]) rfl (oxv_store (i := 0) (o := 0) rfl rfl (lv_sl _ _) ⟨rfl, rfl, rfl, rfl⟩ rfl info22 rfl (H' := [⟨.pointer (some q907), [(Sl Kf r20)], 22, none⟩, ⟨.pointer (some q908), [(Vl (.slice none 0 0))], 24, none⟩, ⟨.pointer (some q909), [(Vl (.bool false))], 4, none⟩]) rfl) rfl rfl bo_nil (wt_none' rfl) rfl fun _ => ?_
        exact tx_pick' [0, 1, 2] (sub_cons rfl (sub_cons rfl (sub_cons rfl (sub_cons rfl (sub_cons rfl sub_nil))))) (by decide) (pick_cons rfl (pick_cons rfl (pick_cons rfl pick_nil))) (hN7 (q907, q908, q909))
    intro hN4
    refine ax_node (f' := 4) #[true, true, true, false, true, true, false, false, false] (fun (v4 : Addr × Addr × Addr) => (⟨25, [⟨.fn (.func 89) ⟨[.pointer (some q4), .pointer (some q5), .pointer (some q6)]⟩, #[]⟩], [(4, (Vl (.pointer (some v4.1)))), (5, (Vl (.pointer (some v4.2.1)))), (6, (Vl (.pointer (some v4.2.2)))), (20, (Sl Kf r20)), (21, (Vl (.slice none 0 0))), (24, (Vl (.bool false)))], [⟨.pointer (some v4.1), [(Vl (.slice none 0 0))], 22, none⟩, ⟨.pointer (some v4.2.1), [(Vl (.slice none 0 0))], 24, none⟩, ⟨.pointer (some v4.2.2), [(Vl (.bool false))], 4, none⟩]⟩ : St)) ?_ ?_
    · rintro ⟨q9010, q9011, q9012⟩
      refine ax_all (i := 3) (is := []) (by kernel_rfl) (all_cons ?_ all_nil)
      · refine nx_ox (last := #[true, true, true, true, true, true, false, false, false]) rfl (ox_calln' (ent_fn' Try.func92 isn92 rfl rfl) (impl_intss_sim hr22 : Go.Sx.Fn Try.prog 92 [(Vl (.slice none 0 0))] [] (fun x : Unit => (Vl (.slice none 0 0))) (fun x => [])) (Hn := fun x : Unit => [⟨.pointer (some q9010), [(Vl (.slice none 0 0))], 22, none⟩, ⟨.pointer (some q9011), [(Vl (.slice none 0 0))], 24, none⟩, ⟨.pointer (some q9012), [(Vl (.bool false))], 4, none⟩]) (fun _ => rfl) rfl rfl) rfl bs_nil (wt_none' rfl) rfl fun ⟨⟩ => ?_
        exact tx_pick' [0, 1, 2] (sub_cons rfl (sub_cons rfl (sub_cons rfl (sub_cons rfl (sub_cons rfl (sub_cons rfl sub_nil)))))) (by decide) (pick_cons rfl (pick_cons rfl (pick_cons rfl pick_nil))) (hN6 (q9010, q9011, q9012))
    intro hN5
    refine ax_node (f' := 5) #[true, true, true, false, true, false, false, false, false] (fun (v1 : Addr × Addr × Addr) => (⟨25, [⟨.fn (.func 89) ⟨[.pointer (some q4), .pointer (some q5), .pointer (some q6)]⟩, #[]⟩], [(4, (Vl (.pointer (some v1.1)))), (5, (Vl (.pointer (some v1.2.1)))), (6, (Vl (.pointer (some v1.2.2)))), (20, (Sl Kf r20)), (21, (Vl (.slice none 0 0))), (23, (If 225 (Ag [(Vl (.int .i64 y2.2.1)), (Vl (.int .i64 y2.2.2))])))], [⟨.pointer (some v1.1), [(Vl (.slice none 0 0))], 22, none⟩, ⟨.pointer (some v1.2.1), [(Vl (.slice none 0 0))], 24, none⟩, ⟨.pointer (some v1.2.2), [(Vl (.bool false))], 4, none⟩]⟩ : St)) ?_ ?_
    · rintro ⟨q901, q902, q903⟩
      refine ax_all (i := 3) (is := [5]) (by kernel_rfl) (all_cons ?_ (all_cons ?_ all_nil))
      · refine nx_ox (last := #[true, true, true, true, true, false, false, false, false]) rfl (ox_calln' (ent_fn' Try.func92 isn92 rfl rfl) (impl_intss_sim hr22 : Go.Sx.Fn Try.prog 92 [(Vl (.slice none 0 0))] [] (fun x : Unit => (Vl (.slice none 0 0))) (fun x => [])) (Hn := fun x : Unit => [⟨.pointer (some q901), [(Vl (.slice none 0 0))], 22, none⟩, ⟨.pointer (some q902), [(Vl (.slice none 0 0))], 24, none⟩, ⟨.pointer (some q903), [(Vl (.bool false))], 4, none⟩]) (fun _ => rfl) rfl rfl) rfl bs_nil (wt_none' rfl) rfl fun ⟨⟩ => ?_
        exact tx_pick' [0, 1, 2] (sub_cons rfl (sub_cons rfl (sub_cons rfl (sub_cons rfl (sub_cons rfl (sub_cons rfl sub_nil)))))) (by decide) (pick_cons rfl (pick_cons rfl (pick_cons rfl pick_nil))) (hN4 (q901, q902, q903))
      · refine nx_rd (last := #[true, true, true, false, true, true, false, false, false]) rfl (rd_binf' rfl rfl (bf_if (fun _ _ => by kernel_rfl) nil_eql103_if225)) rfl rfl (wt_none' rfl) rfl ?_
        exact tx_pick' [0, 1, 2] (sub_cons rfl (sub_cons rfl (sub_cons rfl (sub_cons rfl (sub_cons rfl (sub_cons rfl sub_nil)))))) (by decide) (pick_cons rfl (pick_cons rfl (pick_cons rfl pick_nil))) (hN5 (q901, q902, q903))
    intro hN2
    refine ax_node (f' := 5) #[true, false, true, false, true, true, false, false, false] (fun (v2 : Addr × Addr × Addr) => (⟨25, [⟨.fn (.func 89) ⟨[.pointer (some q4), .pointer (some q5), .pointer (some q6)]⟩, #[]⟩], [(4, (Vl (.pointer (some v2.1)))), (5, (Vl (.pointer (some v2.2.1)))), (6, (Vl (.pointer (some v2.2.2)))), (19, (Vl (.slice none 0 0))), (21, (Vl (.slice none 0 0))), (24, (Vl (.bool false)))], [⟨.pointer (some v2.1), [(Vl (.slice none 0 0))], 22, none⟩, ⟨.pointer (some v2.2.1), [(Vl (.slice none 0 0))], 24, none⟩, ⟨.pointer (some v2.2.2), [(Vl (.bool false))], 4, none⟩]⟩ : St)) ?_ ?_
    · rintro ⟨q904, q905, q906⟩
      refine ax_all (i := 1) (is := []) (by kernel_rfl) (all_cons ?_ all_nil)
      · refine nx_ox (last := #[true, true, true, false, true, true, false, false, false]) rfl (ox_calln' (ent_fn' Try.func58 isn58 rfl rfl) (impl_floats_v2_sim hr20 : Go.Sx.Fn Try.prog 58 [(Vl (.slice none 0 0))] [] (fun x : Unit => (Sl Kf r20)) (fun x => [])) (Hn := fun x : Unit => [⟨.pointer (some q904), [(Vl (.slice none 0 0))], 22, none⟩, ⟨.pointer (some q905), [(Vl (.slice none 0 0))], 24, none⟩, ⟨.pointer (some q906), [(Vl (.bool false))], 4, none⟩]) (fun _ => rfl) rfl rfl) rfl bs_nil (wt_none' rfl) rfl fun ⟨⟩ => ?_
        exact tx_pick' [0, 1, 2] (sub_cons rfl (sub_cons rfl (sub_cons rfl (sub_cons rfl (sub_cons rfl (sub_cons rfl sub_nil)))))) (by decide) (pick_cons rfl (pick_cons rfl (pick_cons rfl pick_nil))) (hN5 (q904, q905, q906))
    intro hN3
    refine ax_all (i := 1) (is := [5]) (by kernel_rfl) (all_cons ?_ (all_cons ?_ all_nil))
    · refine nx_ox (last := #[true, true, true, false, true, false, false, false, false]) rfl (ox_calln' (ent_fn' Try.func58 isn58 rfl rfl) (impl_floats_v2_sim hr20 : Go.Sx.Fn Try.prog 58 [(Vl (.slice none 0 0))] [] (fun x : Unit => (Sl Kf r20)) (fun x => [])) (Hn := fun x : Unit => [(Rw (Kl (Kl (Kl Kf))) 106 (Vs g13) y2.1), ⟨.pointer (some q6), [(Vl (.bool false))], 4, none⟩, ⟨.pointer (some q5), [(Vl (.slice none 0 0))], 24, none⟩, ⟨.pointer (some q4), [(Vl (.slice none 0 0))], 22, none⟩]) (fun _ => rfl) rfl rfl) rfl bs_nil (wt_none' rfl) rfl fun ⟨⟩ => ?_
      exact tx_pick' [3, 2, 1] (sub_cons rfl (sub_cons rfl (sub_cons rfl (sub_cons rfl (sub_cons rfl (sub_cons rfl sub_nil)))))) (by decide) (pick_cons rfl (pick_cons rfl (pick_cons rfl pick_nil))) (hN2 (q4, q5, q6))
    · refine nx_rd (last := #[true, false, true, false, true, true, false, false, false]) rfl (rd_binf' rfl rfl (bf_if (fun _ _ => by kernel_rfl) nil_eql103_if225)) rfl rfl (wt_none' rfl) rfl ?_
      exact tx_pick' [3, 2, 1] (sub_cons rfl (sub_cons rfl (sub_cons rfl (sub_cons rfl (sub_cons rfl (sub_cons rfl sub_nil)))))) (by decide) (pick_cons rfl (pick_cons rfl (pick_cons rfl pick_nil))) (hN3 (q4, q5, q6))
  · dsimp only at hp
    refine sx_ox' (ox_callg' (ent_fn' Try.func90 isn90 rfl rfl) (gogeom_DoorDeflate3_sim _ _ hr15 : Go.Sx.Fn Try.prog 90 [(Vl (Vs g13)), (Vl (.int .i64 a1))] [(Rw (Kl (Kl (Kl Kf))) 106 (Vs g13) r13)] (fun x : Unit => (Tu [(Sl Kf y2.2.1), (Sl (Kl (Ki .i64)) y2.2.2), (Vl .nilIface)])) (fun x => [(Rw (Kl (Kl (Kl Kf))) 106 (Vs g13) y2.1)])) [0] [1, 2, 3] (by decide) (pick_cons rfl pick_nil) (pick_cons rfl (pick_cons rfl (pick_cons rfl pick_nil))) (Hn := fun x : Unit => [(Rw (Kl (Kl (Kl Kf))) 106 (Vs g13) y2.1), ⟨.pointer (some q6), [(Vl (.bool false))], 4, none⟩, ⟨.pointer (some q5), [(Vl (.slice none 0 0))], 24, none⟩, ⟨.pointer (some q4), [(Vl (.slice none 0 0))], 22, none⟩]) (fun _ => rfl) rfl rfl) (wt_none' rfl) fun ⟨⟩ => ?_
    refine sx_rd' (rd_move' rfl) rfl rfl (wt_none' rfl) ?_
    refine sx_rd' (rd_extract' rfl rfl) rfl rfl (wt_none' rfl) ?_
    refine sx_rd' (rd_extract' rfl rfl) rfl rfl (wt_none' rfl) ?_
    refine sx_rd' (rd_extract' rfl rfl) rfl rfl (wt_none' rfl) ?_
    refine sx_rd' (rd_assign' rfl) rfl rfl (wt_none' rfl) ?_
    refine sx_rd' (rd_assign' rfl) rfl rfl (wt_none' rfl) ?_
    refine sx_rd' (rd_assign' rfl) rfl rfl (wt_none' rfl) ?_
    refine sx_nil' ?_
    show TX E K3 _
    refine tx_k' hK3 ?_
    refine cx_seq' fun K4 hK4 => ?_
    refine cx_plana' [] [(6, 1), (7, 1), (8, 1)] [(0, 1), (2, 1), (4, 2)] 6 #[true, false, true, false, true, false, false, false, false] mixed (by kernel_rfl) ?_
    refine px_rd' rfl (rd_move' rfl) rfl rfl (wt_none' rfl) ?_
    refine px_rd' rfl (rd_move' rfl) rfl rfl (wt_none' rfl) ?_
    refine px_rb' rfl (rb_move' rfl) rfl rfl (wt_none' rfl) ?_
    refine px_nil' ?_
    show AX E _ _ _ _ _ _ _ _
    obtain ⟨r20, hr20, hp⟩ := bind_some hp
    obtain ⟨r22, hr22, hp⟩ := bind_some hp
    refine ax_node (f' := 0) #[true, true, true, true, true, true, true, true, true] (fun (v10 : Addr × Addr × Addr) => (⟨25, [⟨.fn (.func 89) ⟨[.pointer (some q4), .pointer (some q5), .pointer (some q6)]⟩, #[]⟩], [(4, (Vl (.pointer (some v10.1)))), (5, (Vl (.pointer (some v10.2.1)))), (6, (Vl (.pointer (some v10.2.2))))], [⟨.pointer (some v10.1), [(Sl Kf r20)], 22, none⟩, ⟨.pointer (some v10.2.1), [(Sl (Kl (Ki .i64)) r22)], 24, none⟩, ⟨.pointer (some v10.2.2), [(Vl (.bool true))], 4, none⟩]⟩ : St)) ?_ ?_
    · rintro ⟨q9028, q9029, q9030⟩
      refine ax_nil (by kernel_rfl) ?_
      show TX E K4 _
      refine tx_k' hK4 ?_
      refine cx_retc' ?_
      replace hp := Option.some.inj hp
      subst hp
      refine tx_leave' (.inl rfl) rfl idle89 rfl Try.func89 isn89 rfl ?_
      refine tx_pick' (L' := [(4, (Vl (.pointer (some q9028)))), (5, (Vl (.pointer (some q9029)))), (6, (Vl (.pointer (some q9030))))]) (H' := [⟨.pointer (some q9028), [(Sl Kf r20)], 22, none⟩, ⟨.pointer (some q9029), [(Sl (Kl (Ki .i64)) r22)], 24, none⟩, ⟨.pointer (some q9030), [(Vl (.bool true))], 4, none⟩]) [0, 1, 2] (sub_cons rfl (sub_cons rfl (sub_cons rfl sub_nil))) (by decide) (pick_cons rfl (pick_cons rfl (pick_cons rfl pick_nil))) ?_
      exact tx_ret3' Try.results43 rfl () (rv_cell' (i := 0) (o := 0) rfl ⟨rfl, rfl, rfl, rfl⟩ rfl flat22) (rv_cell' (i := 1) (o := 0) rfl ⟨rfl, rfl, rfl, rfl⟩ rfl flat24) (rv_cell' (i := 2) (o := 0) rfl ⟨rfl, rfl, rfl, rfl⟩ rfl flat4) rfl (List.nil_sublist _)
    intro hN11
    refine ax_node (f' := 1) #[true, true, true, true, true, true, true, true, false] (fun (v9 : Addr × Addr × Addr) => (⟨25, [⟨.fn (.func 89) ⟨[.pointer (some q4), .pointer (some q5), .pointer (some q6)]⟩, #[]⟩], [(4, (Vl (.pointer (some v9.1)))), (5, (Vl (.pointer (some v9.2.1)))), (6, (Vl (.pointer (some v9.2.2)))), (24, (Vl (.bool true)))], [⟨.pointer (some v9.1), [(Sl Kf r20)], 22, none⟩, ⟨.pointer (some v9.2.1), [(Sl (Kl (Ki .i64)) r22)], 24, none⟩, ⟨.pointer (some v9.2.2), [(Vl (.bool false))], 4, none⟩]⟩ : St)) ?_ ?_
    · rintro ⟨q9025, q9026, q9027⟩
      refine ax_all (i := 8) (is := []) (by kernel_rfl) (all_cons ?_ all_nil)
      · refine nx_oxv (last := #[true, true, true, true, true, true, true, true, true]) rfl (oxv_store (i := 2) (o := 0) rfl rfl (lv_vl rfl rfl) ⟨rfl, rfl, rfl, rfl⟩ rfl info4 rfl (H' := [⟨.pointer (some q9025), [(Sl Kf r20)], 22, none⟩, ⟨.pointer (some q9026), [(Sl (Kl (Ki .i64)) r22)], 24, none⟩, ⟨.pointer (some q9027), [(Vl (.bool true))], 4, none⟩]) rfl) rfl rfl bo_nil (wt_none' rfl) rfl fun _ => ?_
        exact tx_pick' [0, 1, 2] (sub_cons rfl (sub_cons rfl (sub_cons rfl sub_nil))) (by decide) (pick_cons rfl (pick_cons rfl (pick_cons rfl pick_nil))) (hN11 (q9025, q9026, q9027))
    intro hN10
    refine ax_node (f' := 2) #[true, true, true, true, true, true, true, false, false] (fun (v7 : Addr × Addr × Addr) => (⟨25, [⟨.fn (.func 89) ⟨[.pointer (some q4), .pointer (some q5), .pointer (some q6)]⟩, #[]⟩], [(4, (Vl (.pointer (some v7.1)))), (5, (Vl (.pointer (some v7.2.1)))), (6, (Vl (.pointer (some v7.2.2)))), (22, (Sl (Kl (Ki .i64)) r22)), (24, (Vl (.bool true)))], [⟨.pointer (some v7.1), [(Sl Kf r20)], 22, none⟩, ⟨.pointer (some v7.2.1), [(Vl (.slice none 0 0))], 24, none⟩, ⟨.pointer (some v7.2.2), [(Vl (.bool false))], 4, none⟩]⟩ : St)) ?_ ?_
    · rintro ⟨q9019, q9020, q9021⟩
      refine ax_all (i := 7) (is := []) (by kernel_rfl) (all_cons ?_ all_nil)
      · refine nx_oxv (last := #[true, true, true, true, true, true, true, true, false]) rfl (oxv_store (i := 1) (o := 0) rfl rfl (lv_sl _ _) ⟨rfl, rfl, rfl, rfl⟩ rfl info24 rfl (H' := [⟨.pointer (some q9019), [(Sl Kf r20)], 22, none⟩, ⟨.pointer (some q9020), [(Sl (Kl (Ki .i64)) r22)], 24, none⟩, ⟨.pointer (some q9021), [(Vl (.bool false))], 4, none⟩]) rfl) rfl rfl bo_nil (wt_none' rfl) rfl fun _ => ?_
        exact tx_pick' [0, 1, 2] (sub_cons rfl (sub_cons rfl (sub_cons rfl (sub_cons rfl sub_nil)))) (by decide) (pick_cons rfl (pick_cons rfl (pick_cons rfl pick_nil))) (hN10 (q9019, q9020, q9021))
    intro hN8
    refine ax_node (f' := 2) #[true, true, true, true, true, false, true, true, false] (fun (v8 : Addr × Addr × Addr) => (⟨25, [⟨.fn (.func 89) ⟨[.pointer (some q4), .pointer (some q5), .pointer (some q6)]⟩, #[]⟩], [(4, (Vl (.pointer (some v8.1)))), (5, (Vl (.pointer (some v8.2.1)))), (6, (Vl (.pointer (some v8.2.2)))), (23, (Vl .nilIface))], [⟨.pointer (some v8.1), [(Sl Kf r20)], 22, none⟩, ⟨.pointer (some v8.2.1), [(Sl (Kl (Ki .i64)) r22)], 24, none⟩, ⟨.pointer (some v8.2.2), [(Vl (.bool false))], 4, none⟩]⟩ : St)) ?_ ?_
    · rintro ⟨q9022, q9023, q9024⟩
      refine ax_rd (ix := 5) (last := #[true, true, true, true, true, true, true, true, false]) (by kernel_rfl) rfl (rd_binf' rfl rfl (bf_vl (fun _ => by kernel_rfl) nil_eql103_nilif)) rfl rfl (wt_none' rfl) rfl ?_
      exact tx_pick' [0, 1, 2] (sub_cons rfl (sub_cons rfl (sub_cons rfl (sub_cons rfl sub_nil)))) (by decide) (pick_cons rfl (pick_cons rfl (pick_cons rfl pick_nil))) (hN10 (q9022, q9023, q9024))
    intro hN9
    refine ax_node (f' := 3) #[true, true, true, true, true, true, false, false, false] (fun (v5 : Addr × Addr × Addr) => (⟨25, [⟨.fn (.func 89) ⟨[.pointer (some q4), .pointer (some q5), .pointer (some q6)]⟩, #[]⟩], [(4, (Vl (.pointer (some v5.1)))), (5, (Vl (.pointer (some v5.2.1)))), (6, (Vl (.pointer (some v5.2.2)))), (20, (Sl Kf r20)), (22, (Sl (Kl (Ki .i64)) r22)), (24, (Vl (.bool true)))], [⟨.pointer (some v5.1), [(Vl (.slice none 0 0))], 22, none⟩, ⟨.pointer (some v5.2.1), [(Vl (.slice none 0 0))], 24, none⟩, ⟨.pointer (some v5.2.2), [(Vl (.bool false))], 4, none⟩]⟩ : St)) ?_ ?_
    · rintro ⟨q9013, q9014, q9015⟩
      refine ax_all (i := 6) (is := []) (by kernel_rfl) (all_cons ?_ all_nil)
      · refine nx_oxv (last := #[true, true, true, true, true, true, true, false, false]) rfl (oxv_store (i := 0) (o := 0) rfl rfl (lv_sl _ _) ⟨rfl, rfl, rfl, rfl⟩ rfl info22 rfl (H' := [⟨.pointer (some q9013), [(Sl Kf r20)], 22, none⟩, ⟨.pointer (some q9014), [(Vl (.slice none 0 0))], 24, none⟩, ⟨.pointer (some q9015), [(Vl (.bool false))], 4, none⟩]) rfl) rfl rfl bo_nil (wt_none' rfl) rfl fun _ => ?_
        exact tx_pick' [0, 1, 2] (sub_cons rfl (sub_cons rfl (sub_cons rfl (sub_cons rfl (sub_cons rfl sub_nil))))) (by decide) (pick_cons rfl (pick_cons rfl (pick_cons rfl pick_nil))) (hN8 (q9013, q9014, q9015))
    intro hN6
    refine ax_node (f' := 3) #[true, true, true, true, true, false, true, false, false] (fun (v6 : Addr × Addr × Addr) => (⟨25, [⟨.fn (.func 89) ⟨[.pointer (some q4), .pointer (some q5), .pointer (some q6)]⟩, #[]⟩], [(4, (Vl (.pointer (some v6.1)))), (5, (Vl (.pointer (some v6.2.1)))), (6, (Vl (.pointer (some v6.2.2)))), (22, (Sl (Kl (Ki .i64)) r22)), (23, (Vl .nilIface))], [⟨.pointer (some v6.1), [(Sl Kf r20)], 22, none⟩, ⟨.pointer (some v6.2.1), [(Vl (.slice none 0 0))], 24, none⟩, ⟨.pointer (some v6.2.2), [(Vl (.bool false))], 4, none⟩]⟩ : St)) ?_ ?_
    · rintro ⟨q9016, q9017, q9018⟩
      refine ax_all (i := 5) (is := [7]) (by kernel_rfl) (all_cons ?_ (all_cons ?_ all_nil))
      · refine nx_rd (last := #[true, true, true, true, true, true, true, false, false]) rfl (rd_binf' rfl rfl (bf_vl (fun _ => by kernel_rfl) nil_eql103_nilif)) rfl rfl (wt_none' rfl) rfl ?_
        exact tx_pick' [0, 1, 2] (sub_cons rfl (sub_cons rfl (sub_cons rfl (sub_cons rfl (sub_cons rfl sub_nil))))) (by decide) (pick_cons rfl (pick_cons rfl (pick_cons rfl pick_nil))) (hN8 (q9016, q9017, q9018))
      · refine nx_oxv (last := #[true, true, true, true, true, false, true, true, false]) rfl (oxv_store (i := 1) (o := 0) rfl rfl (lv_sl _ _) ⟨rfl, rfl, rfl, rfl⟩ rfl info24 rfl (H' := [⟨.pointer (some q9016), [(Sl Kf r20)], 22, none⟩, ⟨.pointer (some q9017), [(Sl (Kl (Ki .i64)) r22)], 24, none⟩, ⟨.pointer (some q9018), [(Vl (.bool false))], 4, none⟩]) rfl) rfl rfl bo_nil (wt_none' rfl) rfl fun _ => ?_
        exact tx_pick' [0, 1, 2] (sub_cons rfl (sub_cons rfl (sub_cons rfl (sub_cons rfl sub_nil)))) (by decide) (pick_cons rfl (pick_cons rfl (pick_cons rfl pick_nil))) (hN9 (q9016, q9017, q9018))
    intro hN7
    refine ax_node (f' := 4) #[true, true, true, true, true, false, false, false, false] (fun (v3 : Addr × Addr × Addr) => (⟨25, [⟨.fn (.func 89) ⟨[.pointer (some q4), .pointer (some q5), .pointer (some q6)]⟩, #[]⟩], [(4, (Vl (.pointer (some v3.1)))), (5, (Vl (.pointer (some v3.2.1)))), (6, (Vl (.pointer (some v3.2.2)))), (20, (Sl Kf r20)), (22, (Sl (Kl (Ki .i64)) r22)), (23, (Vl .nilIface))], [⟨.pointer (some v3.1), [(Vl (.slice none 0 0))], 22, none⟩, ⟨.pointer (some v3.2.1), [(Vl (.slice none 0 0))], 24, none⟩, ⟨.pointer (some v3.2.2), [(Vl (.bool false))], 4, none⟩]⟩ : St)) ?_ ?_
    · rintro ⟨q907, q908, q909⟩
      refine ax_all (i := 5) (is := [6]) (by kernel_rfl) (all_cons ?_ (all_cons ?_ all_nil))
      · refine nx_rd (last := #[true, true, true, true, true, true, false, false, false]) rfl (rd_binf' rfl rfl (bf_vl (fun _ => by kernel_rfl) nil_eql103_nilif)) rfl rfl (wt_none' rfl) rfl ?_
        exact tx_pick' [0, 1, 2] (sub_cons rfl (sub_cons rfl (sub_cons rfl (sub_cons rfl (sub_cons rfl (sub_cons rfl sub_nil)))))) (by decide) (pick_cons rfl (pick_cons rfl (pick_cons rfl pick_nil))) (hN6 (q907, q908, q909))
      · refine nx_oxv (last := #[true, true, true, true, true, false, true, false, false]) rfl (oxv_store (i := 0) (o := 0) rfl rfl (lv_sl _ _) ⟨rfl, rfl, rfl, rfl⟩ rfl info22 rfl (H' := [⟨.pointer (some q907), [(Sl Kf r20)], 22, none⟩, ⟨.pointer (some q908), [(Vl (.slice none 0 0))], 24, none⟩, ⟨.pointer (some q909), [(Vl (.bool false))], 4, none⟩]) rfl) rfl rfl bo_nil (wt_none' rfl) rfl fun _ => ?_
        exact tx_pick' [0, 1, 2] (sub_cons rfl (sub_cons rfl (sub_cons rfl (sub_cons rfl (sub_cons rfl sub_nil))))) (by decide) (pick_cons rfl (pick_cons rfl (pick_cons rfl pick_nil))) (hN7 (q907, q908, q909))
    intro hN4
    refine ax_node (f' := 4) #[true, true, true, false, true, true, false, false, false] (fun (v4 : Addr × Addr × Addr) => (⟨25, [⟨.fn (.func 89) ⟨[.pointer (some q4), .pointer (some q5), .pointer (some q6)]⟩, #[]⟩], [(4, (Vl (.pointer (some v4.1)))), (5, (Vl (.pointer (some v4.2.1)))), (6, (Vl (.pointer (some v4.2.2)))), (20, (Sl Kf r20)), (21, (Sl (Kl (Ki .i64)) y2.2.2)), (24, (Vl (.bool true)))], [⟨.pointer (some v4.1), [(Vl (.slice none 0 0))], 22, none⟩, ⟨.pointer (some v4.2.1), [(Vl (.slice none 0 0))], 24, none⟩, ⟨.pointer (some v4.2.2), [(Vl (.bool false))], 4, none⟩]⟩ : St)) ?_ ?_
    · rintro ⟨q9010, q9011, q9012⟩
      refine ax_all (i := 3) (is := []) (by kernel_rfl) (all_cons ?_ all_nil)
      · refine nx_ox (last := #[true, true, true, true, true, true, false, false, false]) rfl (ox_calln' (ent_fn' Try.func92 isn92 rfl rfl) (impl_intss_v2_sim _ hr22 : Go.Sx.Fn Try.prog 92 [(Sl (Kl (Ki .i64)) y2.2.2)] [] (fun x : Unit => (Sl (Kl (Ki .i64)) r22)) (fun x => [])) (Hn := fun x : Unit => [⟨.pointer (some q9010), [(Vl (.slice none 0 0))], 22, none⟩, ⟨.pointer (some q9011), [(Vl (.slice none 0 0))], 24, none⟩, ⟨.pointer (some q9012), [(Vl (.bool false))], 4, none⟩]) (fun _ => rfl) rfl rfl) rfl bs_nil (wt_none' rfl) rfl fun ⟨⟩ => ?_
        exact tx_pick' [0, 1, 2] (sub_cons rfl (sub_cons rfl (sub_cons rfl (sub_cons rfl (sub_cons rfl (sub_cons rfl sub_nil)))))) (by decide) (pick_cons rfl (pick_cons rfl (pick_cons rfl pick_nil))) (hN6 (q9010, q9011, q9012))
    intro hN5
    refine ax_node (f' := 5) #[true, true, true, false, true, false, false, false, false] (fun (v1 : Addr × Addr × Addr) => (⟨25, [⟨.fn (.func 89) ⟨[.pointer (some q4), .pointer (some q5), .pointer (some q6)]⟩, #[]⟩], [(4, (Vl (.pointer (some v1.1)))), (5, (Vl (.pointer (some v1.2.1)))), (6, (Vl (.pointer (some v1.2.2)))), (20, (Sl Kf r20)), (21, (Sl (Kl (Ki .i64)) y2.2.2)), (23, (Vl .nilIface))], [⟨.pointer (some v1.1), [(Vl (.slice none 0 0))], 22, none⟩, ⟨.pointer (some v1.2.1), [(Vl (.slice none 0 0))], 24, none⟩, ⟨.pointer (some v1.2.2), [(Vl (.bool false))], 4, none⟩]⟩ : St)) ?_ ?_
    · rintro ⟨q901, q902, q903⟩
      refine ax_all (i := 3) (is := [5]) (by kernel_rfl) (all_cons ?_ (all_cons ?_ all_nil))
      · refine nx_ox (last := #[true, true, true, true, true, false, false, false, false]) rfl (ox_calln' (ent_fn' Try.func92 isn92 rfl rfl) (impl_intss_v2_sim _ hr22 : Go.Sx.Fn Try.prog 92 [(Sl (Kl (Ki .i64)) y2.2.2)] [] (fun x : Unit => (Sl (Kl (Ki .i64)) r22)) (fun x => [])) (Hn := fun x : Unit => [⟨.pointer (some q901), [(Vl (.slice none 0 0))], 22, none⟩, ⟨.pointer (some q902), [(Vl (.slice none 0 0))], 24, none⟩, ⟨.pointer (some q903), [(Vl (.bool false))], 4, none⟩]) (fun _ => rfl) rfl rfl) rfl bs_nil (wt_none' rfl) rfl fun ⟨⟩ => ?_
        exact tx_pick' [0, 1, 2] (sub_cons rfl (sub_cons rfl (sub_cons rfl (sub_cons rfl (sub_cons rfl (sub_cons rfl sub_nil)))))) (by decide) (pick_cons rfl (pick_cons rfl (pick_cons rfl pick_nil))) (hN4 (q901, q902, q903))
      · refine nx_rd (last := #[true, true, true, false, true, true, false, false, false]) rfl (rd_binf' rfl rfl (bf_vl (fun _ => by kernel_rfl) nil_eql103_nilif)) rfl rfl (wt_none' rfl) rfl ?_
        exact tx_pick' [0, 1, 2] (sub_cons rfl (sub_cons rfl (sub_cons rfl (sub_cons rfl (sub_cons rfl (sub_cons rfl sub_nil)))))) (by decide) (pick_cons rfl (pick_cons rfl (pick_cons rfl pick_nil))) (hN5 (q901, q902, q903))
    intro hN2
    refine ax_node (f' := 5) #[true, false, true, false, true, true, false, false, false] (fun (v2 : Addr × Addr × Addr) => (⟨25, [⟨.fn (.func 89) ⟨[.pointer (some q4), .pointer (some q5), .pointer (some q6)]⟩, #[]⟩], [(4, (Vl (.pointer (some v2.1)))), (5, (Vl (.pointer (some v2.2.1)))), (6, (Vl (.pointer (some v2.2.2)))), (19, (Sl Kf y2.2.1)), (21, (Sl (Kl (Ki .i64)) y2.2.2)), (24, (Vl (.bool true)))], [⟨.pointer (some v2.1), [(Vl (.slice none 0 0))], 22, none⟩, ⟨.pointer (some v2.2.1), [(Vl (.slice none 0 0))], 24, none⟩, ⟨.pointer (some v2.2.2), [(Vl (.bool false))], 4, none⟩]⟩ : St)) ?_ ?_
    · rintro ⟨q904, q905, q906⟩
      refine ax_all (i := 1) (is := []) (by kernel_rfl) (all_cons ?_ all_nil)
      · refine nx_ox (last := #[true, true, true, false, true, true, false, false, false]) rfl (ox_calln' (ent_fn' Try.func58 isn58 rfl rfl) (impl_floats_sim _ hr20 : Go.Sx.Fn Try.prog 58 [(Sl Kf y2.2.1)] [] (fun x : Unit => (Sl Kf r20)) (fun x => [])) (Hn := fun x : Unit => [⟨.pointer (some q904), [(Vl (.slice none 0 0))], 22, none⟩, ⟨.pointer (some q905), [(Vl (.slice none 0 0))], 24, none⟩, ⟨.pointer (some q906), [(Vl (.bool false))], 4, none⟩]) (fun _ => rfl) rfl rfl) rfl bs_nil (wt_none' rfl) rfl fun ⟨⟩ => ?_
        exact tx_pick' [0, 1, 2] (sub_cons rfl (sub_cons rfl (sub_cons rfl (sub_cons rfl (sub_cons rfl (sub_cons rfl sub_nil)))))) (by decide) (pick_cons rfl (pick_cons rfl (pick_cons rfl pick_nil))) (hN5 (q904, q905, q906))
    intro hN3
    refine ax_all (i := 1) (is := [5]) (by kernel_rfl) (all_cons ?_ (all_cons ?_ all_nil))
    · refine nx_ox (last := #[true, true, true, false, true, false, false, false, false]) rfl (ox_calln' (ent_fn' Try.func58 isn58 rfl rfl) (impl_floats_sim _ hr20 : Go.Sx.Fn Try.prog 58 [(Sl Kf y2.2.1)] [] (fun x : Unit => (Sl Kf r20)) (fun x => [])) (Hn := fun x : Unit => [(Rw (Kl (Kl (Kl Kf))) 106 (Vs g13) y2.1), ⟨.pointer (some q6), [(Vl (.bool false))], 4, none⟩, ⟨.pointer (some q5), [(Vl (.slice none 0 0))], 24, none⟩, ⟨.pointer (some q4), [(Vl (.slice none 0 0))], 22, none⟩]) (fun _ => rfl) rfl rfl) rfl bs_nil (wt_none' rfl) rfl fun ⟨⟩ => ?_
      exact tx_pick' [3, 2, 1] (sub_cons rfl (sub_cons rfl (sub_cons rfl (sub_cons rfl (sub_cons rfl (sub_cons rfl sub_nil)))))) (by decide) (pick_cons rfl (pick_cons rfl (pick_cons rfl pick_nil))) (hN2 (q4, q5, q6))
    · refine nx_rd (last := #[true, false, true, false, true, true, false, false, false]) rfl (rd_binf' rfl rfl (bf_vl (fun _ => by kernel_rfl) nil_eql103_nilif)) rfl rfl (wt_none' rfl) rfl ?_
      exact tx_pick' [3, 2, 1] (sub_cons rfl (sub_cons rfl (sub_cons rfl (sub_cons rfl (sub_cons rfl (sub_cons rfl sub_nil)))))) (by decide) (pick_cons rfl (pick_cons rfl (pick_cons rfl pick_nil))) (hN3 (q4, q5, q6))

end Go.Proofs.Ytkeaodoibflhnaa
