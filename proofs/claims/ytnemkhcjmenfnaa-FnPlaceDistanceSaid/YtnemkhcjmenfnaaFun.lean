/-
  Plain functions for the Go functions that this law reaches, and that each call does what its plain function says. Printed by a program of ours.
-/
import Derived.Test.YtnemkhcjmenfnaaProg
import Derived.Test.YtnemkhcjmenfnaaSxZ
import Derived.Test.YtnemkhcjmenfnaaFun1
namespace Go.Proofs.Ytnemkhcjmenfnaa
open Go.Sx
set_option linter.unusedVariables false
set_option maxRecDepth 100000

def math_ldexp_j2 (k : Nat) (r22 : Nat × Int) (x2 : Int) (x3 : Nat) : Option (Nat) :=
  (ishl .u64 (icv .u64 (iadd .i64 x2 1023)) 52) >>= fun r57 =>
  (some (gmul x3 (ffrom (ior .u64 (iandn .u64 (fbits r22.1) 9218868437227405312) r57)))) >>= fun r62 =>
  some r62
def math_ldexp_j1 (k : Nat) (a0 : Nat) (a1 : Int) (x1 : Bool) : Option (Nat) :=
  br x1
    (some a0)
    ((math_normalize k a0) >>= fun r22 =>
    (num r22.1) >>= fun u1 =>
    (ishr .u64 (fbits r22.1) 52) >>= fun r32 =>
    br (decide ((iadd .i64 (iadd .i64 a1 r22.2) (isub .i64 (iand .i64 (icv .i64 r32) 2047) 1023)) < (-1075)))
      ((num r22.1) >>= fun u2 =>
      (math_Copysign k 0 r22.1) >>= fun r40 =>
      some r40)
      (br (decide (1023 < (iadd .i64 (iadd .i64 a1 r22.2) (isub .i64 (iand .i64 (icv .i64 r32) 2047) 1023))))
        (br (flt r22.1 0)
          ((math_Inf k (-1)) >>= fun r45 =>
          some r45)
          ((math_Inf k 1) >>= fun r46 =>
          some r46))
        (br (decide ((iadd .i64 (iadd .i64 a1 r22.2) (isub .i64 (iand .i64 (icv .i64 r32) 2047) 1023)) < (-1022)))
          (math_ldexp_j2 k r22 (iadd .i64 (iadd .i64 (iadd .i64 a1 r22.2) (isub .i64 (iand .i64 (icv .i64 r32) 2047) 1023)) 53) 4368491638549381120)
          (math_ldexp_j2 k r22 (iadd .i64 (iadd .i64 a1 r22.2) (isub .i64 (iand .i64 (icv .i64 r32) 2047) 1023)) 4607182418800017408))))
def math_ldexp (k : Nat) (a0 : Nat) (a1 : Int) : Option (Nat) :=
  br (feq a0 0)
    (some a0)
    ((math_IsInf k a0 0) >>= fun r14 =>
    br r14
      (math_ldexp_j1 k a0 a1 true)
      ((math_IsNaN k a0) >>= fun r17 =>
      math_ldexp_j1 k a0 a1 r17))

theorem math_ldexp_sim {k : Nat}  (a0 : Nat) (a1 : Int) {out : Nat} (hp : math_ldexp k a0 a1 = some out) : Go.Sx.Fn Try.prog 126 [(Vl (.float .f64 a0)), (Vl (.int .i64 a1))] [] (fun w : Unit => (Fl out)) (fun w => []) := by
  unfold math_ldexp at hp
  refine fn_of Try.func126 rfl Try.ntmps126 rfl fun E hM => ?_
  refine cx_seq' fun K1 hK1 => ?_
  refine cx_region' ?_
  refine sx_rd' (rd_assign' rfl) rfl rfl (wt_none' rfl) ?_
  refine sx_nil' ?_
  show TX E K1 _
  refine tx_k' hK1 ?_
  refine cx_seq' fun K2 hK2 => ?_
  refine cx_block' ?_
  refine cx_seq' fun K3 hK3 => ?_
  refine cx_region' ?_
  refine sx_rd' (rd_move' rfl) rfl rfl (wt_none' rfl) ?_
  refine sx_rd' (rd_bin' rfl rfl eg_flt ru_feq) rfl rfl (wt_none' rfl) ?_
  refine sx_rd' (rd_assign' rfl) rfl rfl (wt_none' rfl) ?_
  refine sx_nil' ?_
  show TX E K3 _
  refine tx_k' hK3 ?_
  refine cx_cond' rfl (fun h1 => ?_) (fun h1 => ?_)
  · replace hp := (br_t h1).symm.trans hp
    refine cx_seq' fun K4 hK4 => ?_
    refine cx_region' ?_
    refine sx_rd' (rd_move' rfl) rfl rfl (wt_none' rfl) ?_
    refine sx_rd' (rd_assign' rfl) rfl rfl (wt_none' rfl) ?_
    refine sx_nil' ?_
    show TX E K4 _
    refine tx_k' hK4 ?_
    refine cx_retc' ?_
    replace hp := Option.some.inj hp
    subst hp
    refine tx_pick' (L' := [(4, (Vl (.float .f64 a0)))]) (H' := []) [] (sub_cons rfl sub_nil) (by decide) pick_nil ?_
    exact tx_ret1' Try.results126 rfl () (rv_imp' (x := (Vl (.float .f64 a0))) (y := (Fl a0)) (rv_tmp' rfl) imp_vf) (List.Sublist.refl _)
  · replace hp := (br_f h1).symm.trans hp
    refine cx_seq' fun K5 hK5 => ?_
    refine cx_region' ?_
    refine sx_rd' (rd_move' rfl) rfl rfl (wt_none' rfl) ?_
    obtain ⟨r14, hr14, hp⟩ := bind_some hp
    refine sx_ox' (ox_calln' (ent_fn' Try.func154 isn154 rfl rfl) (math_IsInf_sim _ _ hr14 : Go.Sx.Fn Try.prog 154 [(Vl (.float .f64 a0)), (Vl (.int .i64 0))] [] (fun x : Unit => (Vl (.bool r14))) (fun x => [])) (Hn := fun x : Unit => []) (fun _ => rfl) rfl rfl) (wt_none' rfl) fun ⟨⟩ => ?_
    refine sx_rd' (rd_move' rfl) rfl rfl (wt_none' rfl) ?_
    refine sx_cutn' 3 (fun (v1 : Bool) => (⟨63, [], [(0, (Vl (.float .f64 a0))), (1, (Vl (.int .i64 a1))), (18, (Vl (.bool v1)))], []⟩ : St)) (fun (v1 : Bool) => math_ldexp_j1 k a0 a1 v1 = some out) ?_ ?_
    · rintro x1 hp
      replace hp : math_ldexp_j1 k a0 a1 x1 = some out := hp
      unfold math_ldexp_j1 at hp
      refine sx_rd' (rd_assign' rfl) rfl rfl (wt_none' rfl) ?_
      refine sx_nil' ?_
      show TX E K5 _
      refine tx_k' hK5 ?_
      refine cx_cond' rfl (fun h3 => ?_) (fun h3 => ?_)
      · replace hp := (br_t h3).symm.trans hp
        refine cx_seq' fun K7 hK7 => ?_
        refine cx_region' ?_
        refine sx_rd' (rd_move' rfl) rfl rfl (wt_none' rfl) ?_
        refine sx_rd' (rd_assign' rfl) rfl rfl (wt_none' rfl) ?_
        refine sx_nil' ?_
        show TX E K7 _
        refine tx_k' hK7 ?_
        refine cx_retc' ?_
        replace hp := Option.some.inj hp
        subst hp
        refine tx_pick' (L' := [(4, (Vl (.float .f64 a0)))]) (H' := []) [] (sub_cons rfl sub_nil) (by decide) pick_nil ?_
        exact tx_ret1' Try.results126 rfl () (rv_imp' (x := (Vl (.float .f64 a0))) (y := (Fl a0)) (rv_tmp' rfl) imp_vf) (List.Sublist.refl _)
      · replace hp := (br_f h3).symm.trans hp
        refine cx_skip' ?_
        show TX E K2 _
        refine tx_k' hK2 ?_
        refine cx_seq' fun K8 hK8 => ?_
        refine cx_region' ?_
        refine sx_rd' (rd_move' rfl) rfl rfl (wt_none' rfl) ?_
        obtain ⟨r22, hr22, hp⟩ := bind_some hp
        refine sx_ox' (ox_calln' (ent_fn' Try.func155 isn155 rfl rfl) (math_normalize_sim _ hr22 : Go.Sx.Fn Try.prog 155 [(Vl (.float .f64 a0))] [] (fun x : Unit => (Tu [(Fl r22.1), (Vl (.int .i64 r22.2))])) (fun x => [])) (Hn := fun x : Unit => []) (fun _ => rfl) rfl rfl) (wt_none' rfl) fun ⟨⟩ => ?_
        refine sx_rd' (rd_move' rfl) rfl rfl (wt_none' rfl) ?_
        refine sx_rd' (rd_extract' rfl rfl) rfl rfl (wt_none' rfl) ?_
        refine sx_rd' (rd_extract' rfl rfl) rfl rfl (wt_none' rfl) ?_
        refine sx_rd' (rd_assign' rfl) rfl rfl (wt_none' rfl) ?_
        refine sx_rd' (rd_assign' rfl) rfl rfl (wt_none' rfl) ?_
        refine sx_nil' ?_
        show TX E K8 _
        refine tx_k' hK8 ?_
        refine cx_seq' fun K9 hK9 => ?_
        refine cx_region' ?_
        refine sx_rd' (rd_move' rfl) rfl rfl (wt_none' rfl) ?_
        refine sx_rd' (rd_move' rfl) rfl rfl (wt_none' rfl) ?_
        refine sx_rd' (rd_bin' rfl rfl eg_int ru_add) rfl rfl (wt_none' rfl) ?_
        refine sx_rd' (rd_assign' rfl) rfl rfl (wt_none' rfl) ?_
        refine sx_nil' ?_
        show TX E K9 _
        refine tx_k' hK9 ?_
        refine cx_seq' fun K10 hK10 => ?_
        refine cx_region' ?_
        refine sx_rd' (rd_move' rfl) rfl rfl (wt_none' rfl) ?_
        obtain ⟨u1, hu1, hp⟩ := bind_some hp
        refine tx_slot' 28 (y := (Vl (.float .f64 r22.1))) rfl (imp_num (num_some hu1).2) ?_
        refine sx_rd' (rd_ext' (us := [.float .f64 r22.1]) rfl (ext85 ex_bits)) rfl rfl (wt_none' rfl) ?_
        refine sx_rd' (rd_assign' rfl) rfl rfl (wt_none' rfl) ?_
        refine sx_nil' ?_
        show TX E K10 _
        refine tx_k' hK10 ?_
        refine cx_seq' fun K11 hK11 => ?_
        refine cx_region' ?_
        refine sx_rd' (rd_move' rfl) rfl rfl (wt_none' rfl) ?_
        refine sx_rd' (rd_move' rfl) rfl rfl (wt_none' rfl) ?_
        obtain ⟨r32, hr32, hp⟩ := bind_some hp
        refine sx_rd' (rd_bin' rfl rfl eg_int (ru_shr hr32)) rfl rfl (wt_none' rfl) ?_
        refine sx_rd' (rd_conv' rfl (ru_i2i (by rw [Try.underlying112]; rfl) Try.underlying3)) rfl rfl (wt_none' rfl) ?_
        refine sx_rd' (rd_bin' rfl rfl eg_int ru_and) rfl rfl (wt_none' rfl) ?_
        refine sx_rd' (rd_bin' rfl rfl eg_int ru_sub) rfl rfl (wt_none' rfl) ?_
        refine sx_rd' (rd_bin' rfl rfl eg_int ru_add) rfl rfl (wt_none' rfl) ?_
        refine sx_rd' (rd_assign' rfl) rfl rfl (wt_none' rfl) ?_
        refine sx_nil' ?_
        show TX E K11 _
        refine tx_k' hK11 ?_
        refine cx_seq' fun K12 hK12 => ?_
        refine cx_seq' fun K13 hK13 => ?_
        refine cx_region' ?_
        refine sx_rd' (rd_move' rfl) rfl rfl (wt_none' rfl) ?_
        refine sx_rd' (rd_bin' rfl rfl eg_int ru_lss) rfl rfl (wt_none' rfl) ?_
        refine sx_nil' ?_
        show TX E K13 _
        refine tx_k' hK13 ?_
        refine cx_cond' rfl (fun h4 => ?_) (fun h4 => ?_)
        · replace hp := (br_t h4).symm.trans hp
          refine cx_seq' fun K14 hK14 => ?_
          refine cx_region' ?_
          refine sx_rd' (rd_move' rfl) rfl rfl (wt_none' rfl) ?_
          obtain ⟨u2, hu2, hp⟩ := bind_some hp
          refine tx_slot' 39 (y := (Vl (.float .f64 r22.1))) rfl (imp_num (num_some hu2).2) ?_
          obtain ⟨r40, hr40, hp⟩ := bind_some hp
          refine sx_ox' (ox_calln' (ent_fn' Try.func156 isn156 rfl rfl) (math_Copysign_sim _ _ hr40 : Go.Sx.Fn Try.prog 156 [(Vl (.float .f64 0)), (Vl (.float .f64 r22.1))] [] (fun x : Unit => (Vl (.float .f64 r40))) (fun x => [])) (Hn := fun x : Unit => []) (fun _ => rfl) rfl rfl) (wt_none' rfl) fun ⟨⟩ => ?_
          refine sx_rd' (rd_assign' rfl) rfl rfl (wt_none' rfl) ?_
          refine sx_nil' ?_
          show TX E K14 _
          refine tx_k' hK14 ?_
          refine cx_retc' ?_
          replace hp := Option.some.inj hp
          subst hp
          refine tx_pick' (L' := [(4, (Vl (.float .f64 r40)))]) (H' := []) [] (sub_cons rfl sub_nil) (by decide) pick_nil ?_
          exact tx_ret1' Try.results126 rfl () (rv_imp' (x := (Vl (.float .f64 r40))) (y := (Fl r40)) (rv_tmp' rfl) imp_vf) (List.Sublist.refl _)
        · replace hp := (br_f h4).symm.trans hp
          refine cx_skip' ?_
          show TX E K12 _
          refine tx_k' hK12 ?_
          refine cx_seq' fun K15 hK15 => ?_
          refine cx_seq' fun K16 hK16 => ?_
          refine cx_region' ?_
          refine sx_rd' (rd_move' rfl) rfl rfl (wt_none' rfl) ?_
          refine sx_rd' (rd_bin' rfl rfl eg_int ru_gtr) rfl rfl (wt_none' rfl) ?_
          refine sx_nil' ?_
          show TX E K16 _
          refine tx_k' hK16 ?_
          refine cx_cond' rfl (fun h5 => ?_) (fun h5 => ?_)
          · replace hp := (br_t h5).symm.trans hp
            refine cx_seq' fun K17 hK17 => ?_
            refine cx_seq' fun K18 hK18 => ?_
            refine cx_region' ?_
            refine sx_rd' (rd_move' rfl) rfl rfl (wt_none' rfl) ?_
            refine sx_rd' (rd_fcmp' (fl_f rfl) (fl_v rfl) rfl) rfl rfl (wt_none' rfl) ?_
            refine sx_nil' ?_
            show TX E K18 _
            refine tx_k' hK18 ?_
            refine cx_cond' rfl (fun h6 => ?_) (fun h6 => ?_)
            · replace hp := (br_t h6).symm.trans hp
              refine cx_seq' fun K19 hK19 => ?_
              refine cx_region' ?_
              obtain ⟨r45, hr45, hp⟩ := bind_some hp
              refine sx_ox' (ox_calln' (ent_fn' Try.func157 isn157 rfl rfl) (math_Inf_sim _ hr45 : Go.Sx.Fn Try.prog 157 [(Vl (.int .i64 (-1)))] [] (fun x : Unit => (Vl (.float .f64 r45))) (fun x => [])) (Hn := fun x : Unit => []) (fun _ => rfl) rfl rfl) (wt_none' rfl) fun ⟨⟩ => ?_
              refine sx_rd' (rd_assign' rfl) rfl rfl (wt_none' rfl) ?_
              refine sx_nil' ?_
              show TX E K19 _
              refine tx_k' hK19 ?_
              refine cx_retc' ?_
              replace hp := Option.some.inj hp
              subst hp
              refine tx_pick' (L' := [(4, (Vl (.float .f64 r45)))]) (H' := []) [] (sub_cons rfl sub_nil) (by decide) pick_nil ?_
              exact tx_ret1' Try.results126 rfl () (rv_imp' (x := (Vl (.float .f64 r45))) (y := (Fl r45)) (rv_tmp' rfl) imp_vf) (List.Sublist.refl _)
            · replace hp := (br_f h6).symm.trans hp
              refine cx_skip' ?_
              show TX E K17 _
              refine tx_k' hK17 ?_
              refine cx_seq' fun K20 hK20 => ?_
              refine cx_region' ?_
              obtain ⟨r46, hr46, hp⟩ := bind_some hp
              refine sx_ox' (ox_calln' (ent_fn' Try.func157 isn157 rfl rfl) (math_Inf_sim _ hr46 : Go.Sx.Fn Try.prog 157 [(Vl (.int .i64 1))] [] (fun x : Unit => (Vl (.float .f64 r46))) (fun x => [])) (Hn := fun x : Unit => []) (fun _ => rfl) rfl rfl) (wt_none' rfl) fun ⟨⟩ => ?_
              refine sx_rd' (rd_assign' rfl) rfl rfl (wt_none' rfl) ?_
              refine sx_nil' ?_
              show TX E K20 _
              refine tx_k' hK20 ?_
              refine cx_retc' ?_
              replace hp := Option.some.inj hp
              subst hp
              refine tx_pick' (L' := [(4, (Vl (.float .f64 r46)))]) (H' := []) [] (sub_cons rfl sub_nil) (by decide) pick_nil ?_
              exact tx_ret1' Try.results126 rfl () (rv_imp' (x := (Vl (.float .f64 r46))) (y := (Fl r46)) (rv_tmp' rfl) imp_vf) (List.Sublist.refl _)
          · replace hp := (br_f h5).symm.trans hp
            refine cx_skip' ?_
            show TX E K15 _
            refine tx_k' hK15 ?_
            refine cx_seq' fun K21 hK21 => ?_
            refine cx_region' ?_
            refine sx_rd' (rd_assign' rfl) rfl rfl (wt_none' rfl) ?_
            refine sx_nil' ?_
            show TX E K21 _
            refine tx_k' hK21 ?_
            refine cx_join' (fun (v2 : Int × Nat) => (⟨63, [], [(1, (Vl (.int .i64 v2.1))), (6, (Vl (.int .u64 (fbits r22.1)))), (7, (Vl (.float .f64 v2.2)))], []⟩ : St)) (fun (v2 : Int × Nat) => math_ldexp_j2 k r22 v2.1 v2.2 = some out) ?_ ?_
            · rintro ⟨x2, x3⟩ hp
              replace hp : math_ldexp_j2 k r22 x2 x3 = some out := hp
              unfold math_ldexp_j2 at hp
              refine cx_seq' fun K25 hK25 => ?_
              refine cx_region' ?_
              refine sx_rd' (rd_move' rfl) rfl rfl (wt_none' rfl) ?_
              refine sx_rd' (rd_bin' rfl rfl eg_int ru_andn) rfl rfl (wt_none' rfl) ?_
              refine sx_rd' (rd_assign' rfl) rfl rfl (wt_none' rfl) ?_
              refine sx_nil' ?_
              show TX E K25 _
              refine tx_k' hK25 ?_
              refine cx_seq' fun K26 hK26 => ?_
              refine cx_region' ?_
              refine sx_rd' (rd_move' rfl) rfl rfl (wt_none' rfl) ?_
              refine sx_rd' (rd_move' rfl) rfl rfl (wt_none' rfl) ?_
              refine sx_rd' (rd_bin' rfl rfl eg_int ru_add) rfl rfl (wt_none' rfl) ?_
              refine sx_rd' (rd_conv' rfl (ru_i2i (by rw [Try.underlying3]; rfl) Try.underlying112)) rfl rfl (wt_none' rfl) ?_
              obtain ⟨r57, hr57, hp⟩ := bind_some hp
              refine sx_rd' (rd_bin' rfl rfl eg_int (ru_shl hr57)) rfl rfl (wt_none' rfl) ?_
              refine sx_rd' (rd_bin' rfl rfl eg_int ru_or) rfl rfl (wt_none' rfl) ?_
              refine sx_rd' (rd_assign' rfl) rfl rfl (wt_none' rfl) ?_
              refine sx_nil' ?_
              show TX E K26 _
              refine tx_k' hK26 ?_
              refine cx_seq' fun K27 hK27 => ?_
              refine cx_region' ?_
              refine sx_rd' (rd_move' rfl) rfl rfl (wt_none' rfl) ?_
              refine sx_rd' (rd_move' rfl) rfl rfl (wt_none' rfl) ?_
              refine sx_rd' (rd_ext' (us := [.int .u64 (ior .u64 (iandn .u64 (fbits r22.1) 9218868437227405312) r57)]) rfl (ext84 ex_from)) rfl rfl (wt_none' rfl) ?_
              obtain ⟨r62, hr62, hp⟩ := bind_some hp
              refine sx_ox' (ox_fop' (.inr (.inr (.inl rfl))) (fl_v rfl) (fl_v rfl) (Option.some.inj hr62) rfl rfl) (wt_none' rfl) fun _ => ?_
              refine sx_rd' (rd_assign' rfl) rfl rfl (wt_none' rfl) ?_
              refine sx_nil' ?_
              show TX E K27 _
              refine tx_k' hK27 ?_
              refine cx_retc' ?_
              replace hp := Option.some.inj hp
              subst hp
              refine tx_pick' (L' := [(4, (Fl r62))]) (H' := []) [] (sub_cons rfl sub_nil) (by decide) pick_nil ?_
              exact tx_ret1' Try.results126 rfl () (rv_tmp' rfl) (List.Sublist.refl _)
            · intro K22 hK22
              refine cx_seq' fun K23 hK23 => ?_
              refine cx_region' ?_
              refine sx_rd' (rd_move' rfl) rfl rfl (wt_none' rfl) ?_
              refine sx_rd' (rd_bin' rfl rfl eg_int ru_lss) rfl rfl (wt_none' rfl) ?_
              refine sx_nil' ?_
              show TX E K23 _
              refine tx_k' hK23 ?_
              refine cx_cond' rfl (fun h7 => ?_) (fun h7 => ?_)
              · replace hp := (br_t h7).symm.trans hp
                refine cx_seq' fun K24 hK24 => ?_
                refine cx_region' ?_
                refine sx_rd' (rd_move' rfl) rfl rfl (wt_none' rfl) ?_
                refine sx_rd' (rd_bin' rfl rfl eg_int ru_add) rfl rfl (wt_none' rfl) ?_
                refine sx_rd' (rd_assign' rfl) rfl rfl (wt_none' rfl) ?_
                refine sx_nil' ?_
                show TX E K24 _
                refine tx_k' hK24 ?_
                refine cx_region' ?_
                refine sx_rd' (rd_assign' rfl) rfl rfl (wt_none' rfl) ?_
                refine sx_nil' ?_
                show TX E K22 _
                exact tx_pick' [] (sub_cons rfl (sub_cons rfl (sub_cons rfl sub_nil))) (by decide) pick_nil (hK22 ((iadd .i64 (iadd .i64 (iadd .i64 a1 r22.2) (isub .i64 (iand .i64 (icv .i64 r32) 2047) 1023)) 53), 4368491638549381120) hp)
              · replace hp := (br_f h7).symm.trans hp
                refine cx_skip' ?_
                show TX E K22 _
                exact tx_pick' [] (sub_cons rfl (sub_cons rfl (sub_cons rfl sub_nil))) (by decide) pick_nil (hK22 ((iadd .i64 (iadd .i64 a1 r22.2) (isub .i64 (iand .i64 (icv .i64 r32) 2047) 1023)), 4607182418800017408) hp)
    · intro K6 hK6
      rcases br_cases hp with ⟨h2, hp⟩ | ⟨h2, hp⟩
      · refine sx_skip' rfl rfl (wt_is' (wt_guard' rfl rfl rfl) (beq_tf h2)) ?_
        refine sx_skip' rfl rfl (wt_is' (wt_guard' rfl rfl rfl) (beq_tf h2)) ?_
        refine sx_rd' (rd_pick_true' rfl h2 rfl) rfl rfl (wt_none' rfl) ?_
        refine sx_nil' ?_
        show TX E K6 _
        exact tx_pick' [] (sub_cons rfl (sub_cons rfl (sub_cons rfl sub_nil))) (by decide) pick_nil (hK6 true hp)
      · refine sx_rd' (rd_move' rfl) rfl rfl (wt_is' (wt_guard' rfl rfl rfl) (beq_ff h2)) ?_
        obtain ⟨r17, hr17, hp⟩ := bind_some hp
        refine sx_ox' (ox_calln' (ent_fn' Try.func147 isn147 rfl rfl) (math_IsNaN_sim _ hr17 : Go.Sx.Fn Try.prog 147 [(Vl (.float .f64 a0))] [] (fun x : Unit => (Vl (.bool r17))) (fun x => [])) (Hn := fun x : Unit => []) (fun _ => rfl) rfl rfl) (wt_is' (wt_guard' rfl rfl rfl) (beq_ff h2)) fun ⟨⟩ => ?_
        refine sx_rd' (rd_pick_false' rfl h2 rfl) rfl rfl (wt_none' rfl) ?_
        refine sx_nil' ?_
        show TX E K6 _
        exact tx_pick' [] (sub_cons rfl (sub_cons rfl (sub_cons rfl sub_nil))) (by decide) pick_nil (hK6 r17 hp)

def math_Ldexp (k : Nat) (a0 : Nat) (a1 : Int) : Option (Nat) :=
  (math_ldexp k a0 a1) >>= fun r10 =>
  some r10

theorem math_Ldexp_sim {k : Nat}  (a0 : Nat) (a1 : Int) {out : Nat} (hp : math_Ldexp k a0 a1 = some out) : Go.Sx.Fn Try.prog 77 [(Vl (.float .f64 a0)), (Vl (.int .i64 a1))] [] (fun w : Unit => (Fl out)) (fun w => []) := by
  unfold math_Ldexp at hp
  refine fn_of Try.func77 rfl Try.ntmps77 rfl fun E hM => ?_
  refine cx_seq' fun K1 hK1 => ?_
  refine cx_region' ?_
  refine sx_rd' (rd_assign' rfl) rfl rfl (wt_none' rfl) ?_
  refine sx_nil' ?_
  show TX E K1 _
  refine tx_k' hK1 ?_
  refine cx_seq' fun K2 hK2 => ?_
  refine cx_cond_f' rfl rfl ?_
  refine cx_skip' ?_
  show TX E K2 _
  refine tx_k' hK2 ?_
  refine cx_seq' fun K3 hK3 => ?_
  refine cx_region' ?_
  refine sx_rd' (rd_move' rfl) rfl rfl (wt_none' rfl) ?_
  refine sx_rd' (rd_move' rfl) rfl rfl (wt_none' rfl) ?_
  obtain ⟨r10, hr10, hp⟩ := bind_some hp
  refine sx_ox' (ox_calln' (ent_fn' Try.func126 isn126 rfl rfl) (math_ldexp_sim _ _ hr10 : Go.Sx.Fn Try.prog 126 [(Vl (.float .f64 a0)), (Vl (.int .i64 a1))] [] (fun x : Unit => (Fl r10)) (fun x => [])) (Hn := fun x : Unit => []) (fun _ => rfl) rfl rfl) (wt_none' rfl) fun ⟨⟩ => ?_
  refine sx_rd' (rd_assign' rfl) rfl rfl (wt_none' rfl) ?_
  refine sx_nil' ?_
  show TX E K3 _
  refine tx_k' hK3 ?_
  refine cx_retc' ?_
  replace hp := Option.some.inj hp
  subst hp
  refine tx_pick' (L' := [(4, (Fl r10))]) (H' := []) [] (sub_cons rfl sub_nil) (by decide) pick_nil ?_
  exact tx_ret1' Try.results77 rfl () (rv_tmp' rfl) (List.Sublist.refl _)

def spec_Dyadic_Float_j2 (k : Nat) (rec1 : (Int × Int) → Option (Int)) (x4 : Int) (x2 : Int) : Option (Int) :=
  rec1 (x2, (iadd .i64 x4 1))
def spec_Dyadic_Float_l1s (r13 : Int) (a0_2 : Int) (a0_0 : Bool) (a0_1 : List Int) (k : Nat) (rec1 : (Int × Int) → Option (Int)) (x3 : Int) (x4 : Int) : Option (Int) :=
  br (decide (x4 < (imin 53 (iadd .i64 (iadd .i64 r13 a0_2) 1074))))
    ((ishl .u64 x3 1) >>= fun r30 =>
    (spec_Whole_top k a0_0 a0_1) >>= fun r35 =>
    (spec_Whole_bit k a0_0 a0_1 (isub .i64 (isub .i64 r35 1) x4)) >>= fun r39 =>
    br r39
      (spec_Dyadic_Float_j2 k rec1 x4 (iadd .u64 r30 1))
      (spec_Dyadic_Float_j2 k rec1 x4 r30))
    (some x3)
def spec_Dyadic_Float_l1 (r13 : Int) (a0_2 : Int) (a0_0 : Bool) (a0_1 : List Int) : Nat → (Int × Int) → Option (Int)
  | 0, _ => none
  | k + 1, v => spec_Dyadic_Float_l1s r13 a0_2 a0_0 a0_1 k (spec_Dyadic_Float_l1 r13 a0_2 a0_0 a0_1 k) v.1 v.2
def spec_Dyadic_Float_j6 (k : Nat) (a0_2 : Int) (r21 : Int) (r13 : Int) (a0_0 : Bool) (x9 : Int) : Option (Nat) :=
  (math_Ldexp k (i2f x9) (iadd .i64 a0_2 (isub .i64 r21 (imin 53 (iadd .i64 (iadd .i64 r13 a0_2) 1074))))) >>= fun r71 =>
  br a0_0
    (some (fneg r71))
    (some r71)
def spec_Dyadic_Float_j5 (k : Nat) (a0_2 : Int) (r21 : Int) (r13 : Int) (a0_0 : Bool) (v4 : Int) (x8 : Bool) : Option (Nat) :=
  br x8
    (spec_Dyadic_Float_j6 k a0_2 r21 r13 a0_0 (iadd .u64 v4 1))
    (spec_Dyadic_Float_j6 k a0_2 r21 r13 a0_0 v4)
def spec_Dyadic_Float_j4 (k : Nat) (a0_2 : Int) (r21 : Int) (r13 : Int) (a0_0 : Bool) (v4 : Int) (x7 : Bool) : Option (Nat) :=
  spec_Dyadic_Float_j5 k a0_2 r21 r13 a0_0 v4 x7
def spec_Dyadic_Float_j3 (k : Nat) (v4 : Int) (a0_2 : Int) (r21 : Int) (r13 : Int) (a0_0 : Bool) (a0_1 : List Int) (x6 : Bool) : Option (Nat) :=
  br x6
    ((irem v4 2) >>= fun r53 =>
    br (decide (r53 = 1))
      (spec_Dyadic_Float_j4 k a0_2 r21 r13 a0_0 v4 true)
      ((spec_Whole_low k a0_0 a0_1 (isub .i64 (isub .i64 r21 (imin 53 (iadd .i64 (iadd .i64 r13 a0_2) 1074))) 1)) >>= fun r60 =>
      spec_Dyadic_Float_j4 k a0_2 r21 r13 a0_0 v4 r60))
    (spec_Dyadic_Float_j5 k a0_2 r21 r13 a0_0 v4 false)
def spec_Dyadic_Float (k : Nat) (a0_0 : Bool) (a0_1 : List Int) (a0_2 : Int) : Option (Nat) :=
  (spec_Dyadic_Sign k a0_0 a0_1 a0_2) >>= fun r9 =>
  br (decide (r9 = 0))
    (some 0)
    ((spec_Whole_top k a0_0 a0_1) >>= fun r13 =>
    (spec_Whole_top k a0_0 a0_1) >>= fun r21 =>
    (spec_Dyadic_Float_l1 r13 a0_2 a0_0 a0_1 k (0, 0)) >>= fun v4 =>
    br (decide (0 < (isub .i64 r21 (imin 53 (iadd .i64 (iadd .i64 r13 a0_2) 1074)))))
      ((spec_Whole_bit k a0_0 a0_1 (isub .i64 (isub .i64 r21 (imin 53 (iadd .i64 (iadd .i64 r13 a0_2) 1074))) 1)) >>= fun r49 =>
      spec_Dyadic_Float_j3 k v4 a0_2 r21 r13 a0_0 a0_1 r49)
      (spec_Dyadic_Float_j3 k v4 a0_2 r21 r13 a0_0 a0_1 false))

theorem spec_Dyadic_Float_sim {k : Nat}  (a0_0 : Bool) (a0_1 : List Int) (a0_2 : Int) {out : Nat} (hp : spec_Dyadic_Float k a0_0 a0_1 a0_2 = some out) : Go.Sx.Fn Try.prog 28 [(Ag [(Vl (.bool a0_0)), (Sl (Ki .u32) a0_1), (Vl (.int .i64 a0_2))])] [] (fun w : Unit => (Fl out)) (fun w => []) := by
  unfold spec_Dyadic_Float at hp
  refine fn_of Try.func28 rfl Try.ntmps28 rfl fun E hM => ?_
  refine cx_seq' fun K1 hK1 => ?_
  refine cx_region' ?_
  refine sx_ox' (ox_box' rfl (lv_ag _) rfl rfl) (wt_none' rfl) fun q1 => ?_
  refine sx_rd' (rd_assign' rfl) rfl rfl (wt_none' rfl) ?_
  refine sx_nil' ?_
  show TX E K1 _
  refine tx_k' hK1 ?_
  refine cx_seq' fun K2 hK2 => ?_
  refine cx_seq' fun K3 hK3 => ?_
  refine cx_region' ?_
  refine sx_rd' (rd_load_agg' (i := 0) (o := 0) (nn := 3) rfl ⟨rfl, rfl, rfl, rfl⟩ rfl agg40 (l' := [(Vl (.bool a0_0)), (Sl (Ki .u32) a0_1), (Vl (.int .i64 a0_2))]) rfl) rfl rfl (wt_none' rfl) ?_
  obtain ⟨r9, hr9, hp⟩ := bind_some hp
  refine sx_ox' (ox_calln' (ent_fn' Try.func49 isn49 rfl rfl) (spec_Dyadic_Sign_sim _ _ _ hr9 : Go.Sx.Fn Try.prog 49 [(Ag [(Vl (.bool a0_0)), (Sl (Ki .u32) a0_1), (Vl (.int .i64 a0_2))])] [] (fun x : Unit => (Vl (.int .i64 r9))) (fun x => [])) (Hn := fun x : Unit => [⟨.pointer (some q1), [(Vl (.bool a0_0)), (Sl (Ki .u32) a0_1), (Vl (.int .i64 a0_2))], 40, none⟩]) (fun _ => rfl) rfl rfl) (wt_none' rfl) fun ⟨⟩ => ?_
  refine sx_rd' (rd_bin' rfl rfl eg_int ru_eql) rfl rfl (wt_none' rfl) ?_
  refine sx_nil' ?_
  show TX E K3 _
  refine tx_k' hK3 ?_
  refine cx_cond' rfl (fun h1 => ?_) (fun h1 => ?_)
  · replace hp := (br_t h1).symm.trans hp
    refine cx_seq' fun K4 hK4 => ?_
    refine cx_region' ?_
    refine sx_rd' (rd_assign' rfl) rfl rfl (wt_none' rfl) ?_
    refine sx_nil' ?_
    show TX E K4 _
    refine tx_k' hK4 ?_
    refine cx_retc' ?_
    replace hp := Option.some.inj hp
    subst hp
    refine tx_pick' (L' := [(2, (Vl (.float .f64 0)))]) (H' := []) [] (sub_cons rfl sub_nil) (by decide) pick_nil ?_
    exact tx_ret1' Try.results28 rfl () (rv_imp' (x := (Vl (.float .f64 0))) (y := (Fl 0)) (rv_tmp' rfl) imp_vf) (List.Sublist.refl _)
  · replace hp := (br_f h1).symm.trans hp
    refine cx_skip' ?_
    show TX E K2 _
    refine tx_k' hK2 ?_
    refine cx_seq' fun K5 hK5 => ?_
    refine cx_plan' [] [] [(0, 1), (1, 1), (3, 1), (4, 1), (2, 0), (5, 1), (6, 1), (7, 1), (8, 1)] mixed (by kernel_rfl) ?_
    refine px_rd' rfl (rd_field0' rfl Try.underlying40 rfl info38 rfl) rfl rfl (wt_none' rfl) ?_
    refine px_rd' rfl (rd_load_agg' (i := 0) (o := 0) (nn := 2) rfl ⟨rfl, rfl, rfl, rfl⟩ rfl agg38 (l' := [(Vl (.bool a0_0)), (Sl (Ki .u32) a0_1)]) rfl) rfl rfl (wt_none' rfl) ?_
    refine px_rd' rfl (rd_field' (off := 2) rfl Try.underlying40 rfl info3 rfl) rfl rfl (wt_none' rfl) ?_
    refine px_rd' rfl (rd_load' (i := 0) (o := 2) rfl ⟨rfl, rfl, rfl, rfl⟩ rfl flat3) rfl rfl (wt_none' rfl) ?_
    obtain ⟨r13, hr13, hp⟩ := bind_some hp
    refine px_ox' rfl (ox_calln' (ent_fn' Try.func74 isn74 rfl rfl) (spec_Whole_top_sim _ _ hr13 : Go.Sx.Fn Try.prog 74 [(Ag [(Vl (.bool a0_0)), (Sl (Ki .u32) a0_1)])] [] (fun x : Unit => (Vl (.int .i64 r13))) (fun x => [])) (Hn := fun x : Unit => [⟨.pointer (some q1), [(Vl (.bool a0_0)), (Sl (Ki .u32) a0_1), (Vl (.int .i64 a0_2))], 40, none⟩]) (fun _ => rfl) rfl rfl) rfl bs_nil (wt_none' rfl) fun ⟨⟩ => ?_
    refine px_rd' rfl (rd_bin' rfl rfl eg_int ru_add) rfl rfl (wt_none' rfl) ?_
    refine px_rd' rfl (rd_bin' rfl rfl eg_int ru_add) rfl rfl (wt_none' rfl) ?_
    refine px_rd' rfl (rd_imin' rfl rfl) rfl rfl (wt_none' rfl) ?_
    refine px_rd' rfl (rd_assign' rfl) rfl rfl (wt_none' rfl) ?_
    refine px_nil' ?_
    show TX E K5 _
    refine tx_k' hK5 ?_
    refine cx_seq' fun K6 hK6 => ?_
    refine cx_region' ?_
    refine sx_rd' (rd_field0' rfl Try.underlying40 rfl info38 rfl) rfl rfl (wt_none' rfl) ?_
    refine sx_rd' (rd_load_agg' (i := 0) (o := 0) (nn := 2) rfl ⟨rfl, rfl, rfl, rfl⟩ rfl agg38 (l' := [(Vl (.bool a0_0)), (Sl (Ki .u32) a0_1)]) rfl) rfl rfl (wt_none' rfl) ?_
    obtain ⟨r21, hr21, hp⟩ := bind_some hp
    refine sx_ox' (ox_calln' (ent_fn' Try.func74 isn74 rfl rfl) (spec_Whole_top_sim _ _ hr21 : Go.Sx.Fn Try.prog 74 [(Ag [(Vl (.bool a0_0)), (Sl (Ki .u32) a0_1)])] [] (fun x : Unit => (Vl (.int .i64 r21))) (fun x => [])) (Hn := fun x : Unit => [⟨.pointer (some q1), [(Vl (.bool a0_0)), (Sl (Ki .u32) a0_1), (Vl (.int .i64 a0_2))], 40, none⟩]) (fun _ => rfl) rfl rfl) (wt_none' rfl) fun ⟨⟩ => ?_
    refine sx_rd' (rd_move' rfl) rfl rfl (wt_none' rfl) ?_
    refine sx_rd' (rd_bin' rfl rfl eg_int ru_sub) rfl rfl (wt_none' rfl) ?_
    refine sx_rd' (rd_assign' rfl) rfl rfl (wt_none' rfl) ?_
    refine sx_nil' ?_
    show TX E K6 _
    refine tx_k' hK6 ?_
    refine cx_seq' fun K7 hK7 => ?_
    refine cx_region' ?_
    refine sx_rd' (rd_assign' rfl) rfl rfl (wt_none' rfl) ?_
    refine sx_nil' ?_
    show TX E K7 _
    refine tx_k' hK7 ?_
    refine cx_seq' fun K8 hK8 => ?_
    refine cx_seq' fun K9 hK9 => ?_
    refine cx_region' ?_
    refine sx_rd' (rd_assign' rfl) rfl rfl (wt_none' rfl) ?_
    refine sx_nil' ?_
    show TX E K9 _
    refine tx_k' hK9 ?_
    refine cx_block' ?_
    obtain ⟨v4, hy1, hp⟩ := bind_some hp
    refine cx_loopg' (F := spec_Dyadic_Float_l1 r13 a0_2 a0_0 a0_1) (G := fun k R v => spec_Dyadic_Float_l1s r13 a0_2 a0_0 a0_1 k R v.1 v.2) (x := (0, 0)) (gh := ()) (fun (v2 : Int × Int) (w2 : Unit) => (⟨78, [], [(1, (Vl (.pointer (some q1)))), (3, (Vl (.int .i64 (imin 53 (iadd .i64 (iadd .i64 r13 a0_2) 1074))))), (4, (Vl (.int .i64 (isub .i64 r21 (imin 53 (iadd .i64 (iadd .i64 r13 a0_2) 1074)))))), (5, (Vl (.int .u64 v2.1))), (6, (Vl (.int .i64 v2.2)))], [⟨.pointer (some q1), [(Vl (.bool a0_0)), (Sl (Ki .u32) a0_1), (Vl (.int .i64 a0_2))], 40, none⟩]⟩ : St)) (fun (v4 : Int) => Zg E (Exit.exit 0) (fun (w4 : Unit) => (⟨78, [], [(1, (Vl (.pointer (some q1)))), (4, (Vl (.int .i64 (isub .i64 r21 (imin 53 (iadd .i64 (iadd .i64 r13 a0_2) 1074)))))), (5, (Vl (.int .u64 v4)))], [⟨.pointer (some q1), [(Vl (.bool a0_0)), (Sl (Ki .u32) a0_1), (Vl (.int .i64 a0_2))], 40, none⟩]⟩ : St))) (fun _ => rfl) (fun _ _ => rfl) ?_ hy1 (tx_to' rfl [0] (sub_cons rfl (sub_cons rfl (sub_cons rfl (sub_cons rfl (sub_cons rfl sub_nil))))) (by decide) (pick_cons rfl pick_nil)) ?_
    · clear hp hy1
      clear v4
      intro k rec1 KY1 ih1
      rintro ⟨x3, x4⟩ ⟨⟩ y1 hp
      replace hp : spec_Dyadic_Float_l1s r13 a0_2 a0_0 a0_1 k rec1 x3 x4 = some y1 := hp
      unfold spec_Dyadic_Float_l1s at hp
      refine cx_seq' fun K15 hK15 => ?_
      refine cx_seq' fun K16 hK16 => ?_
      refine cx_region' ?_
      refine sx_rd' (rd_move' rfl) rfl rfl (wt_none' rfl) ?_
      refine sx_rd' (rd_move' rfl) rfl rfl (wt_none' rfl) ?_
      refine sx_rd' (rd_bin' rfl rfl eg_int ru_lss) rfl rfl (wt_none' rfl) ?_
      refine sx_nil' ?_
      show TX E K16 _
      refine tx_k' hK16 ?_
      refine cx_cond' rfl (fun h5 => ?_) (fun h5 => ?_)
      · replace hp := (br_t h5).symm.trans hp
        refine cx_skip' ?_
        show TX E K15 _
        refine tx_k' hK15 ?_
        refine cx_join' (fun (v3 : Int) => (⟨78, [], [(1, (Vl (.pointer (some q1)))), (3, (Vl (.int .i64 (imin 53 (iadd .i64 (iadd .i64 r13 a0_2) 1074))))), (4, (Vl (.int .i64 (isub .i64 r21 (imin 53 (iadd .i64 (iadd .i64 r13 a0_2) 1074)))))), (5, (Vl (.int .u64 v3))), (6, (Vl (.int .i64 x4)))], [⟨.pointer (some q1), [(Vl (.bool a0_0)), (Sl (Ki .u32) a0_1), (Vl (.int .i64 a0_2))], 40, none⟩]⟩ : St)) (fun (v3 : Int) => spec_Dyadic_Float_j2 k rec1 x4 v3 = some y1) ?_ ?_
        · rintro x2 hp
          replace hp : spec_Dyadic_Float_j2 k rec1 x4 x2 = some y1 := hp
          unfold spec_Dyadic_Float_j2 at hp
          refine cx_region' ?_
          refine sx_rd' (rd_move' rfl) rfl rfl (wt_none' rfl) ?_
          refine sx_rd' (rd_bin' rfl rfl eg_int ru_add) rfl rfl (wt_none' rfl) ?_
          refine sx_rd' (rd_assign' rfl) rfl rfl (wt_none' rfl) ?_
          refine sx_nil' ?_
          show TX E (KY1 _) _
          exact tx_pick' [0] (sub_cons rfl (sub_cons rfl (sub_cons rfl (sub_cons rfl (sub_cons rfl sub_nil))))) (by decide) (pick_cons rfl pick_nil) (ih1 (x2, (iadd .i64 x4 1)) () _ hp)
        · intro K17 hK17
          refine cx_block' ?_
          refine cx_seq' fun K18 hK18 => ?_
          refine cx_region' ?_
          refine sx_rd' (rd_move' rfl) rfl rfl (wt_none' rfl) ?_
          obtain ⟨r30, hr30, hp⟩ := bind_some hp
          refine sx_rd' (rd_bin' rfl rfl eg_int (ru_shl hr30)) rfl rfl (wt_none' rfl) ?_
          refine sx_rd' (rd_assign' rfl) rfl rfl (wt_none' rfl) ?_
          refine sx_nil' ?_
          show TX E K18 _
          refine tx_k' hK18 ?_
          refine cx_seq' fun K19 hK19 => ?_
          refine cx_plan' [] [] [(0, 1), (1, 1), (2, 1), (3, 1), (6, 1), (4, 0), (5, 1), (7, 1), (8, 0)] mixed (by kernel_rfl) ?_
          refine px_rd' rfl (rd_field0' rfl Try.underlying40 rfl info38 rfl) rfl rfl (wt_none' rfl) ?_
          refine px_rd' rfl (rd_load_agg' (i := 0) (o := 0) (nn := 2) rfl ⟨rfl, rfl, rfl, rfl⟩ rfl agg38 (l' := [(Vl (.bool a0_0)), (Sl (Ki .u32) a0_1)]) rfl) rfl rfl (wt_none' rfl) ?_
          refine px_rd' rfl (rd_field0' rfl Try.underlying40 rfl info38 rfl) rfl rfl (wt_none' rfl) ?_
          refine px_rd' rfl (rd_load_agg' (i := 0) (o := 0) (nn := 2) rfl ⟨rfl, rfl, rfl, rfl⟩ rfl agg38 (l' := [(Vl (.bool a0_0)), (Sl (Ki .u32) a0_1)]) rfl) rfl rfl (wt_none' rfl) ?_
          refine px_rd' rfl (rd_move' rfl) rfl rfl (wt_none' rfl) ?_
          obtain ⟨r35, hr35, hp⟩ := bind_some hp
          refine px_ox' rfl (ox_calln' (ent_fn' Try.func74 isn74 rfl rfl) (spec_Whole_top_sim _ _ hr35 : Go.Sx.Fn Try.prog 74 [(Ag [(Vl (.bool a0_0)), (Sl (Ki .u32) a0_1)])] [] (fun x : Unit => (Vl (.int .i64 r35))) (fun x => [])) (Hn := fun x : Unit => [⟨.pointer (some q1), [(Vl (.bool a0_0)), (Sl (Ki .u32) a0_1), (Vl (.int .i64 a0_2))], 40, none⟩]) (fun _ => rfl) rfl rfl) rfl bs_nil (wt_none' rfl) fun ⟨⟩ => ?_
          refine px_rd' rfl (rd_bin' rfl rfl eg_int ru_sub) rfl rfl (wt_none' rfl) ?_
          refine px_rd' rfl (rd_bin' rfl rfl eg_int ru_sub) rfl rfl (wt_none' rfl) ?_
          obtain ⟨r39, hr39, hp⟩ := bind_some hp
          refine px_ox' rfl (ox_calln' (ent_fn' Try.func75 isn75 rfl rfl) (spec_Whole_bit_sim _ _ _ hr39 : Go.Sx.Fn Try.prog 75 [(Ag [(Vl (.bool a0_0)), (Sl (Ki .u32) a0_1)]), (Vl (.int .i64 (isub .i64 (isub .i64 r35 1) x4)))] [] (fun x : Unit => (Vl (.bool r39))) (fun x => [])) (Hn := fun x : Unit => [⟨.pointer (some q1), [(Vl (.bool a0_0)), (Sl (Ki .u32) a0_1), (Vl (.int .i64 a0_2))], 40, none⟩]) (fun _ => rfl) rfl rfl) rfl bs_nil (wt_none' rfl) fun ⟨⟩ => ?_
          refine px_nil' ?_
          show TX E K19 _
          refine tx_k' hK19 ?_
          refine cx_cond' rfl (fun h6 => ?_) (fun h6 => ?_)
          · replace hp := (br_t h6).symm.trans hp
            refine cx_region' ?_
            refine sx_rd' (rd_move' rfl) rfl rfl (wt_none' rfl) ?_
            refine sx_rd' (rd_bin' rfl rfl eg_int ru_add) rfl rfl (wt_none' rfl) ?_
            refine sx_rd' (rd_assign' rfl) rfl rfl (wt_none' rfl) ?_
            refine sx_nil' ?_
            show TX E K17 _
            exact tx_pick' [0] (sub_cons rfl (sub_cons rfl (sub_cons rfl (sub_cons rfl (sub_cons rfl sub_nil))))) (by decide) (pick_cons rfl pick_nil) (hK17 (iadd .u64 r30 1) hp)
          · replace hp := (br_f h6).symm.trans hp
            refine cx_skip' ?_
            show TX E K17 _
            exact tx_pick' [0] (sub_cons rfl (sub_cons rfl (sub_cons rfl (sub_cons rfl (sub_cons rfl sub_nil))))) (by decide) (pick_cons rfl pick_nil) (hK17 r30 hp)
      · replace hp := (br_f h5).symm.trans hp
        refine cx_exit' ?_
        replace hp := Option.some.inj hp
        subst hp
        show TX E (Zg E (Exit.exit 0) _ (Exit.exit 0)) _
        exact tx_zend' () rfl [0] (sub_cons rfl (sub_cons rfl (sub_cons rfl sub_nil))) (by decide) (pick_cons rfl pick_nil)
    · refine zg_out fun w4 => ?_
      show TX E K8 _
      refine tx_k' hK8 ?_
      refine cx_join' (fun (v8 : Int) => (⟨78, [], [(1, (Vl (.pointer (some q1)))), (4, (Vl (.int .i64 (isub .i64 r21 (imin 53 (iadd .i64 (iadd .i64 r13 a0_2) 1074)))))), (5, (Vl (.int .u64 v8)))], [⟨.pointer (some q1), [(Vl (.bool a0_0)), (Sl (Ki .u32) a0_1), (Vl (.int .i64 a0_2))], 40, none⟩]⟩ : St)) (fun (v8 : Int) => spec_Dyadic_Float_j6 k a0_2 r21 r13 a0_0 v8 = some out) ?_ ?_
      · rintro x9 hp
        replace hp : spec_Dyadic_Float_j6 k a0_2 r21 r13 a0_0 x9 = some out := hp
        unfold spec_Dyadic_Float_j6 at hp
        refine cx_seq' fun K25 hK25 => ?_
        refine cx_region' ?_
        refine sx_rd' (rd_move' rfl) rfl rfl (wt_none' rfl) ?_
        refine sx_rd' (rd_conv' rfl (ru_i2f (by rw [Try.underlying112]; rfl) Try.underlying25)) rfl rfl (wt_none' rfl) ?_
        refine sx_rd' (rd_field' (off := 2) rfl Try.underlying40 rfl info3 rfl) rfl rfl (wt_none' rfl) ?_
        refine sx_rd' (rd_load' (i := 0) (o := 2) rfl ⟨rfl, rfl, rfl, rfl⟩ rfl flat3) rfl rfl (wt_none' rfl) ?_
        refine sx_rd' (rd_move' rfl) rfl rfl (wt_none' rfl) ?_
        refine sx_rd' (rd_bin' rfl rfl eg_int ru_add) rfl rfl (wt_none' rfl) ?_
        obtain ⟨r71, hr71, hp⟩ := bind_some hp
        refine sx_ox' (ox_calln' (ent_fn' Try.func77 isn77 rfl rfl) (math_Ldexp_sim _ _ hr71 : Go.Sx.Fn Try.prog 77 [(Vl (.float .f64 (i2f x9))), (Vl (.int .i64 (iadd .i64 a0_2 (isub .i64 r21 (imin 53 (iadd .i64 (iadd .i64 r13 a0_2) 1074))))))] [] (fun x : Unit => (Fl r71)) (fun x => [])) (Hn := fun x : Unit => [⟨.pointer (some q1), [(Vl (.bool a0_0)), (Sl (Ki .u32) a0_1), (Vl (.int .i64 a0_2))], 40, none⟩]) (fun _ => rfl) rfl rfl) (wt_none' rfl) fun ⟨⟩ => ?_
        refine sx_rd' (rd_assign' rfl) rfl rfl (wt_none' rfl) ?_
        refine sx_nil' ?_
        show TX E K25 _
        refine tx_k' hK25 ?_
        refine cx_seq' fun K26 hK26 => ?_
        refine cx_seq' fun K27 hK27 => ?_
        refine cx_region' ?_
        refine sx_rd' (rd_field0' rfl Try.underlying40 rfl info38 rfl) rfl rfl (wt_none' rfl) ?_
        refine sx_rd' (rd_field0' rfl Try.underlying38 rfl info4 rfl) rfl rfl (wt_none' rfl) ?_
        refine sx_rd' (rd_load' (i := 0) (o := 0) rfl ⟨rfl, rfl, rfl, rfl⟩ rfl flat4) rfl rfl (wt_none' rfl) ?_
        refine sx_nil' ?_
        show TX E K27 _
        refine tx_k' hK27 ?_
        refine cx_cond' rfl (fun h11 => ?_) (fun h11 => ?_)
        · replace hp := (br_t h11).symm.trans hp
          refine cx_seq' fun K28 hK28 => ?_
          refine cx_region' ?_
          refine sx_rd' (rd_move' rfl) rfl rfl (wt_none' rfl) ?_
          refine sx_rd' (rd_fneg_fl' (fl_f rfl)) rfl rfl (wt_none' rfl) ?_
          refine sx_rd' (rd_assign' rfl) rfl rfl (wt_none' rfl) ?_
          refine sx_nil' ?_
          show TX E K28 _
          refine tx_k' hK28 ?_
          refine cx_retc' ?_
          replace hp := Option.some.inj hp
          subst hp
          refine tx_pick' (L' := [(2, (Fl (fneg r71)))]) (H' := []) [] (sub_cons rfl sub_nil) (by decide) pick_nil ?_
          exact tx_ret1' Try.results28 rfl () (rv_tmp' rfl) (List.Sublist.refl _)
        · replace hp := (br_f h11).symm.trans hp
          refine cx_skip' ?_
          show TX E K26 _
          refine tx_k' hK26 ?_
          refine cx_seq' fun K29 hK29 => ?_
          refine cx_region' ?_
          refine sx_rd' (rd_move' rfl) rfl rfl (wt_none' rfl) ?_
          refine sx_rd' (rd_assign' rfl) rfl rfl (wt_none' rfl) ?_
          refine sx_nil' ?_
          show TX E K29 _
          refine tx_k' hK29 ?_
          refine cx_retc' ?_
          replace hp := Option.some.inj hp
          subst hp
          refine tx_pick' (L' := [(2, (Fl r71))]) (H' := []) [] (sub_cons rfl sub_nil) (by decide) pick_nil ?_
          exact tx_ret1' Try.results28 rfl () (rv_tmp' rfl) (List.Sublist.refl _)
      · intro K20 hK20
        refine cx_seq' fun K21 hK21 => ?_
        refine cx_region' ?_
        refine sx_rd' (rd_move' rfl) rfl rfl (wt_none' rfl) ?_
        refine sx_rd' (rd_bin' rfl rfl eg_int ru_gtr) rfl rfl (wt_none' rfl) ?_
        refine sx_rd' (rd_move' rfl) rfl rfl (wt_none' rfl) ?_
        refine sx_cutn' 6 (fun (v5 : Bool) => (⟨78, [], [(1, (Vl (.pointer (some q1)))), (4, (Vl (.int .i64 (isub .i64 r21 (imin 53 (iadd .i64 (iadd .i64 r13 a0_2) 1074)))))), (5, (Vl (.int .u64 v4))), (50, (Vl (.bool v5)))], [⟨.pointer (some q1), [(Vl (.bool a0_0)), (Sl (Ki .u32) a0_1), (Vl (.int .i64 a0_2))], 40, none⟩]⟩ : St)) (fun (v5 : Bool) => spec_Dyadic_Float_j3 k v4 a0_2 r21 r13 a0_0 a0_1 v5 = some out) ?_ ?_
        · rintro x6 hp
          replace hp : spec_Dyadic_Float_j3 k v4 a0_2 r21 r13 a0_0 a0_1 x6 = some out := hp
          unfold spec_Dyadic_Float_j3 at hp
          refine sx_rd' (rd_move' rfl) rfl rfl (wt_none' rfl) ?_
          refine sx_cutn' 11 (fun (v7 : Bool) => (⟨78, [], [(1, (Vl (.pointer (some q1)))), (4, (Vl (.int .i64 (isub .i64 r21 (imin 53 (iadd .i64 (iadd .i64 r13 a0_2) 1074)))))), (5, (Vl (.int .u64 v4))), (62, (Vl (.bool v7)))], [⟨.pointer (some q1), [(Vl (.bool a0_0)), (Sl (Ki .u32) a0_1), (Vl (.int .i64 a0_2))], 40, none⟩]⟩ : St)) (fun (v7 : Bool) => spec_Dyadic_Float_j5 k a0_2 r21 r13 a0_0 v4 v7 = some out) ?_ ?_
          · rintro x8 hp
            replace hp : spec_Dyadic_Float_j5 k a0_2 r21 r13 a0_0 v4 x8 = some out := hp
            unfold spec_Dyadic_Float_j5 at hp
            refine sx_nil' ?_
            show TX E K21 _
            refine tx_k' hK21 ?_
            refine cx_cond' rfl (fun h10 => ?_) (fun h10 => ?_)
            · replace hp := (br_t h10).symm.trans hp
              refine cx_region' ?_
              refine sx_rd' (rd_move' rfl) rfl rfl (wt_none' rfl) ?_
              refine sx_rd' (rd_bin' rfl rfl eg_int ru_add) rfl rfl (wt_none' rfl) ?_
              refine sx_rd' (rd_assign' rfl) rfl rfl (wt_none' rfl) ?_
              refine sx_nil' ?_
              show TX E K20 _
              exact tx_pick' [0] (sub_cons rfl (sub_cons rfl (sub_cons rfl sub_nil))) (by decide) (pick_cons rfl pick_nil) (hK20 (iadd .u64 v4 1) hp)
            · replace hp := (br_f h10).symm.trans hp
              refine cx_skip' ?_
              show TX E K20 _
              exact tx_pick' [0] (sub_cons rfl (sub_cons rfl (sub_cons rfl sub_nil))) (by decide) (pick_cons rfl pick_nil) (hK20 v4 hp)
          · intro K24 hK24
            rcases br_cases hp with ⟨h8, hp⟩ | ⟨h8, hp⟩
            · refine sx_rd' (rd_move' rfl) rfl rfl (wt_is' (wt_guard' rfl rfl rfl) (beq_tt h8)) ?_
              obtain ⟨r53, hr53, hp⟩ := bind_some hp
              refine sx_rd' (rd_bin' rfl rfl eg_int (ru_rem hr53)) rfl rfl (wt_is' (wt_guard' rfl rfl rfl) (beq_tt h8)) ?_
              refine sx_rd' (rd_bin' rfl rfl eg_int ru_eql) rfl rfl (wt_is' (wt_guard' rfl rfl rfl) (beq_tt h8)) ?_
              refine sx_rd' (rd_move' rfl) rfl rfl (wt_is' (wt_guard' rfl rfl rfl) (beq_tt h8)) ?_
              refine sx_cutn' 7 (fun (v6 : Bool) => (⟨78, [], [(1, (Vl (.pointer (some q1)))), (4, (Vl (.int .i64 (isub .i64 r21 (imin 53 (iadd .i64 (iadd .i64 r13 a0_2) 1074)))))), (5, (Vl (.int .u64 v4))), (62, (Vl (.bool v6)))], [⟨.pointer (some q1), [(Vl (.bool a0_0)), (Sl (Ki .u32) a0_1), (Vl (.int .i64 a0_2))], 40, none⟩]⟩ : St)) (fun (v6 : Bool) => spec_Dyadic_Float_j4 k a0_2 r21 r13 a0_0 v4 v6 = some out) ?_ ?_
              · rintro x7 hp
                replace hp : spec_Dyadic_Float_j4 k a0_2 r21 r13 a0_0 v4 x7 = some out := hp
                unfold spec_Dyadic_Float_j4 at hp
                refine sx_nil' ?_
                show TX E K24 _
                exact tx_pick' [0] (sub_cons rfl (sub_cons rfl (sub_cons rfl (sub_cons rfl sub_nil)))) (by decide) (pick_cons rfl pick_nil) (hK24 x7 hp)
              · intro K23 hK23
                rcases br_cases hp with ⟨h9, hp⟩ | ⟨h9, hp⟩
                · refine sx_skip' rfl rfl (wt_is' (wt_guard' rfl rfl rfl) (beq_tf h9)) ?_
                  refine sx_skip' rfl rfl (wt_is' (wt_guard' rfl rfl rfl) (beq_tf h9)) ?_
                  refine sx_skip' rfl rfl (wt_is' (wt_guard' rfl rfl rfl) (beq_tf h9)) ?_
                  refine sx_skip' rfl rfl (wt_is' (wt_guard' rfl rfl rfl) (beq_tf h9)) ?_
                  refine sx_skip' rfl rfl (wt_is' (wt_guard' rfl rfl rfl) (beq_tf h9)) ?_
                  refine sx_rd' (rd_pick_true' rfl h9 rfl) rfl rfl (wt_is' (wt_guard' rfl rfl rfl) (beq_tt h8)) ?_
                  refine sx_rd' (rd_pick_true' rfl h8 rfl) rfl rfl (wt_none' rfl) ?_
                  refine sx_nil' ?_
                  show TX E K23 _
                  exact tx_pick' [0] (sub_cons rfl (sub_cons rfl (sub_cons rfl (sub_cons rfl sub_nil)))) (by decide) (pick_cons rfl pick_nil) (hK23 true hp)
                · refine sx_rd' (rd_field0' rfl Try.underlying40 rfl info38 rfl) rfl rfl (wt_is' (wt_guard' rfl rfl rfl) (beq_ff h9)) ?_
                  refine sx_rd' (rd_load_agg' (i := 0) (o := 0) (nn := 2) rfl ⟨rfl, rfl, rfl, rfl⟩ rfl agg38 (l' := [(Vl (.bool a0_0)), (Sl (Ki .u32) a0_1)]) rfl) rfl rfl (wt_is' (wt_guard' rfl rfl rfl) (beq_ff h9)) ?_
                  refine sx_rd' (rd_move' rfl) rfl rfl (wt_is' (wt_guard' rfl rfl rfl) (beq_ff h9)) ?_
                  refine sx_rd' (rd_bin' rfl rfl eg_int ru_sub) rfl rfl (wt_is' (wt_guard' rfl rfl rfl) (beq_ff h9)) ?_
                  obtain ⟨r60, hr60, hp⟩ := bind_some hp
                  refine sx_ox' (ox_calln' (ent_fn' Try.func76 isn76 rfl rfl) (spec_Whole_low_sim _ _ _ hr60 : Go.Sx.Fn Try.prog 76 [(Ag [(Vl (.bool a0_0)), (Sl (Ki .u32) a0_1)]), (Vl (.int .i64 (isub .i64 (isub .i64 r21 (imin 53 (iadd .i64 (iadd .i64 r13 a0_2) 1074))) 1)))] [] (fun x : Unit => (Vl (.bool r60))) (fun x => [])) (Hn := fun x : Unit => [⟨.pointer (some q1), [(Vl (.bool a0_0)), (Sl (Ki .u32) a0_1), (Vl (.int .i64 a0_2))], 40, none⟩]) (fun _ => rfl) rfl rfl) (wt_is' (wt_guard' rfl rfl rfl) (beq_ff h9)) fun ⟨⟩ => ?_
                  refine sx_rd' (rd_pick_false' rfl h9 rfl) rfl rfl (wt_is' (wt_guard' rfl rfl rfl) (beq_tt h8)) ?_
                  refine sx_rd' (rd_pick_true' rfl h8 rfl) rfl rfl (wt_none' rfl) ?_
                  refine sx_nil' ?_
                  show TX E K23 _
                  exact tx_pick' [0] (sub_cons rfl (sub_cons rfl (sub_cons rfl (sub_cons rfl sub_nil)))) (by decide) (pick_cons rfl pick_nil) (hK23 r60 hp)
            · refine sx_skip' rfl rfl (wt_is' (wt_guard' rfl rfl rfl) (beq_ft h8)) ?_
              refine sx_skip' rfl rfl (wt_is' (wt_guard' rfl rfl rfl) (beq_ft h8)) ?_
              refine sx_skip' rfl rfl (wt_is' (wt_guard' rfl rfl rfl) (beq_ft h8)) ?_
              refine sx_skip' rfl rfl (wt_is' (wt_guard' rfl rfl rfl) (beq_ft h8)) ?_
              refine sx_skip' rfl rfl (wt_undef' rfl rfl rfl) ?_
              refine sx_skip' rfl rfl (wt_undef' rfl rfl rfl) ?_
              refine sx_skip' rfl rfl (wt_undef' rfl rfl rfl) ?_
              refine sx_skip' rfl rfl (wt_undef' rfl rfl rfl) ?_
              refine sx_skip' rfl rfl (wt_undef' rfl rfl rfl) ?_
              refine sx_skip' rfl rfl (wt_is' (wt_guard' rfl rfl rfl) (beq_ft h8)) ?_
              refine sx_rd' (rd_pick_false' rfl h8 rfl) rfl rfl (wt_none' rfl) ?_
              refine sx_nil' ?_
              show TX E K24 _
              exact tx_pick' [0] (sub_cons rfl (sub_cons rfl (sub_cons rfl (sub_cons rfl sub_nil)))) (by decide) (pick_cons rfl pick_nil) (hK24 false hp)
        · intro K22 hK22
          rcases br_cases hp with ⟨h7, hp⟩ | ⟨h7, hp⟩
          · refine sx_rd' (rd_field0' rfl Try.underlying40 rfl info38 rfl) rfl rfl (wt_is' (wt_guard' rfl rfl rfl) (beq_tt h7)) ?_
            refine sx_rd' (rd_load_agg' (i := 0) (o := 0) (nn := 2) rfl ⟨rfl, rfl, rfl, rfl⟩ rfl agg38 (l' := [(Vl (.bool a0_0)), (Sl (Ki .u32) a0_1)]) rfl) rfl rfl (wt_is' (wt_guard' rfl rfl rfl) (beq_tt h7)) ?_
            refine sx_rd' (rd_move' rfl) rfl rfl (wt_is' (wt_guard' rfl rfl rfl) (beq_tt h7)) ?_
            refine sx_rd' (rd_bin' rfl rfl eg_int ru_sub) rfl rfl (wt_is' (wt_guard' rfl rfl rfl) (beq_tt h7)) ?_
            obtain ⟨r49, hr49, hp⟩ := bind_some hp
            refine sx_ox' (ox_calln' (ent_fn' Try.func75 isn75 rfl rfl) (spec_Whole_bit_sim _ _ _ hr49 : Go.Sx.Fn Try.prog 75 [(Ag [(Vl (.bool a0_0)), (Sl (Ki .u32) a0_1)]), (Vl (.int .i64 (isub .i64 (isub .i64 r21 (imin 53 (iadd .i64 (iadd .i64 r13 a0_2) 1074))) 1)))] [] (fun x : Unit => (Vl (.bool r49))) (fun x => [])) (Hn := fun x : Unit => [⟨.pointer (some q1), [(Vl (.bool a0_0)), (Sl (Ki .u32) a0_1), (Vl (.int .i64 a0_2))], 40, none⟩]) (fun _ => rfl) rfl rfl) (wt_is' (wt_guard' rfl rfl rfl) (beq_tt h7)) fun ⟨⟩ => ?_
            refine sx_rd' (rd_pick_true' rfl h7 rfl) rfl rfl (wt_none' rfl) ?_
            refine sx_nil' ?_
            show TX E K22 _
            exact tx_pick' [0] (sub_cons rfl (sub_cons rfl (sub_cons rfl (sub_cons rfl sub_nil)))) (by decide) (pick_cons rfl pick_nil) (hK22 r49 hp)
          · refine sx_skip' rfl rfl (wt_is' (wt_guard' rfl rfl rfl) (beq_ft h7)) ?_
            refine sx_skip' rfl rfl (wt_is' (wt_guard' rfl rfl rfl) (beq_ft h7)) ?_
            refine sx_skip' rfl rfl (wt_is' (wt_guard' rfl rfl rfl) (beq_ft h7)) ?_
            refine sx_skip' rfl rfl (wt_is' (wt_guard' rfl rfl rfl) (beq_ft h7)) ?_
            refine sx_skip' rfl rfl (wt_is' (wt_guard' rfl rfl rfl) (beq_ft h7)) ?_
            refine sx_rd' (rd_pick_false' rfl h7 rfl) rfl rfl (wt_none' rfl) ?_
            refine sx_nil' ?_
            show TX E K22 _
            exact tx_pick' [0] (sub_cons rfl (sub_cons rfl (sub_cons rfl (sub_cons rfl sub_nil)))) (by decide) (pick_cons rfl pick_nil) (hK22 false hp)

def laws_nearTo (k : Nat) (a0 : Nat) (a1 : Nat) : Option (Bool) :=
  (some (gsub a0 a1)) >>= fun r7 =>
  (num r7) >>= fun u1 =>
  (math_Abs k r7) >>= fun r8 =>
  some (flt r8 4517110426252607488)

theorem laws_nearTo_sim {k : Nat}  (a0 : Nat) (a1 : Nat) {out : Bool} (hp : laws_nearTo k a0 a1 = some out) : Go.Sx.Fn Try.prog 39 [(Vl (.float .f64 a0)), (Vl (.float .f64 a1))] [] (fun w : Unit => (Vl (.bool out))) (fun w => []) := by
  unfold laws_nearTo at hp
  refine fn_of Try.func39 rfl Try.ntmps39 rfl fun E hM => ?_
  refine cx_seq' fun K1 hK1 => ?_
  refine cx_region' ?_
  refine sx_rd' (rd_assign' rfl) rfl rfl (wt_none' rfl) ?_
  refine sx_nil' ?_
  show TX E K1 _
  refine tx_k' hK1 ?_
  refine cx_seq' fun K2 hK2 => ?_
  refine cx_region' ?_
  refine sx_rd' (rd_move' rfl) rfl rfl (wt_none' rfl) ?_
  refine sx_rd' (rd_move' rfl) rfl rfl (wt_none' rfl) ?_
  obtain ⟨r7, hr7, hp⟩ := bind_some hp
  refine sx_ox' (ox_fop' (.inr (.inl rfl)) (fl_v rfl) (fl_v rfl) (Option.some.inj hr7) rfl rfl) (wt_none' rfl) fun _ => ?_
  obtain ⟨u1, hu1, hp⟩ := bind_some hp
  refine tx_slot' 7 (y := (Vl (.float .f64 r7))) rfl (imp_num (num_some hu1).2) ?_
  obtain ⟨r8, hr8, hp⟩ := bind_some hp
  refine sx_ox' (ox_calln' (ent_fn' Try.func38 isn38 rfl rfl) (math_Abs_sim _ hr8 : Go.Sx.Fn Try.prog 38 [(Vl (.float .f64 r7))] [] (fun x : Unit => (Vl (.float .f64 r8))) (fun x => [])) (Hn := fun x : Unit => []) (fun _ => rfl) rfl rfl) (wt_none' rfl) fun ⟨⟩ => ?_
  refine sx_rd' (rd_bin' rfl rfl eg_flt ru_flt) rfl rfl (wt_none' rfl) ?_
  refine sx_rd' (rd_assign' rfl) rfl rfl (wt_none' rfl) ?_
  refine sx_nil' ?_
  show TX E K2 _
  refine tx_k' hK2 ?_
  refine cx_retc' ?_
  replace hp := Option.some.inj hp
  subst hp
  refine tx_pick' (L' := [(4, (Vl (.bool (flt r8 4517110426252607488))))]) (H' := []) [] (sub_cons rfl sub_nil) (by decide) pick_nil ?_
  exact tx_ret1' Try.results39 rfl () (rv_tmp' rfl) (List.Sublist.refl _)

def laws_FnPlaceDistance_j2 (k : Nat) (x2 : Bool) : Option (Bool) :=
  some x2
def laws_FnPlaceDistance_j1 (k : Nat) (a0_0 : Nat) (a1_0 : Nat) (a0_1 : Nat) (a1_1 : Nat) (r13 : Nat) (x1 : Bool) : Option (Bool) :=
  br x1
    ((fsub a0_0 a1_0) >>= fun r31 =>
    (fsub a0_1 a1_1) >>= fun r37 =>
    (math_Abs k r31) >>= fun r32 =>
    (math_Abs k r37) >>= fun r38 =>
    (fadd r32 r38) >>= fun r39 =>
    some (feq r13 r39))
    ((laws_exactly k a0_0 a0_1) >>= fun r43 =>
    (laws_exactly k a1_0 a1_1) >>= fun r45 =>
    (spec_Square k r43.1 r43.2.1 r43.2.2.1 r43.2.2.2.1 r43.2.2.2.2.1 r43.2.2.2.2.2 r45.1 r45.2.1 r45.2.2.1 r45.2.2.2.1 r45.2.2.2.2.1 r45.2.2.2.2.2) >>= fun r46 =>
    (spec_Dyadic_Float k r46.1 r46.2.1 r46.2.2) >>= fun r47 =>
    (num r47) >>= fun u1 =>
    (math_Sqrt k r47) >>= fun r48 =>
    (num r13) >>= fun u2 =>
    (num r48) >>= fun u3 =>
    (laws_nearTo k r13 r48) >>= fun r49 =>
    br r49
      ((impl_PlaceDistance k a1_0 a1_1 a0_0 a0_1) >>= fun r54 =>
      laws_FnPlaceDistance_j2 k (feq r13 r54))
      (laws_FnPlaceDistance_j2 k false))
def laws_FnPlaceDistance (k : Nat) (a0_0 : Nat) (a0_1 : Nat) (a1_0 : Nat) (a1_1 : Nat) : Option (Bool) :=
  (laws_planeTo k 4697254411347427328 ([(a0_0, a0_1), (a1_0, a1_1)])) >>= fun r9 =>
  br (!r9)
    (some true)
    ((impl_PlaceDistance k a0_0 a0_1 a1_0 a1_1) >>= fun r13 =>
    br (feq a0_0 a1_0)
      (laws_FnPlaceDistance_j1 k a0_0 a1_0 a0_1 a1_1 r13 true)
      (laws_FnPlaceDistance_j1 k a0_0 a1_0 a0_1 a1_1 r13 (feq a0_1 a1_1)))

theorem laws_FnPlaceDistance_sim {k : Nat}  (a0_0 : Nat) (a0_1 : Nat) (a1_0 : Nat) (a1_1 : Nat) {out : Bool} (hp : laws_FnPlaceDistance k a0_0 a0_1 a1_0 a1_1 = some out) : Go.Sx.Fn Try.prog 8 [(Ag [(Vl (.float .f64 a0_0)), (Vl (.float .f64 a0_1))]), (Ag [(Vl (.float .f64 a1_0)), (Vl (.float .f64 a1_1))])] [] (fun w : Unit => (Vl (.bool out))) (fun w => []) := by
  unfold laws_FnPlaceDistance at hp
  refine fn_of Try.func8 rfl Try.ntmps8 rfl fun E hM => ?_
  refine cx_seq' fun K1 hK1 => ?_
  refine cx_region' ?_
  refine sx_ox' (ox_box' rfl (lv_ag _) rfl rfl) (wt_none' rfl) fun q2 => ?_
  refine sx_ox' (ox_box' rfl (lv_ag _) rfl rfl) (wt_none' rfl) fun q3 => ?_
  refine sx_rd' (rd_assign' rfl) rfl rfl (wt_none' rfl) ?_
  refine sx_nil' ?_
  show TX E K1 _
  refine tx_k' hK1 ?_
  refine cx_seq' fun K2 hK2 => ?_
  refine cx_seq' fun K3 hK3 => ?_
  refine cx_region' ?_
  refine sx_rd' (rd_load_agg' (i := 1) (o := 0) (nn := 2) rfl ⟨rfl, rfl, rfl, rfl⟩ rfl agg27 (l' := [(Vl (.float .f64 a0_0)), (Vl (.float .f64 a0_1))]) rfl) rfl rfl (wt_none' rfl) ?_
  refine sx_rd' (rd_load_agg' (i := 0) (o := 0) (nn := 2) rfl ⟨rfl, rfl, rfl, rfl⟩ rfl agg27 (l' := [(Vl (.float .f64 a1_0)), (Vl (.float .f64 a1_1))]) rfl) rfl rfl (wt_none' rfl) ?_
  refine sx_ox' (ox_rowlit' (K := KT27) (xs := [(a0_0, a0_1), (a1_0, a1_1)]) (qs := [(0, [(Vl (.float .f64 a0_0)), (Vl (.float .f64 a0_1))]), (1, [(Vl (.float .f64 a1_0)), (Vl (.float .f64 a1_1))])]) ⟨rfl, ⟨_, rfl, (lv_ag _)⟩, ⟨rfl, ⟨_, rfl, (lv_ag _)⟩, trivial⟩⟩ Try.underlying22 info27 rfl rfl rfl rfl rfl (by kernel_rfl) rfl rfl rfl) (wt_none' rfl) fun g8 => ?_
  obtain ⟨r9, hr9, hp⟩ := bind_some hp
  refine sx_ox' (ox_brw' (frz_row 0 [(8, (Vl (Vs g8)), (Sl KT27 ([(a0_0, a0_1), (a1_0, a1_1)])))] (K := KT27) (xs := [(a0_0, a0_1), (a1_0, a1_1)]) (by decide) rfl ⟨⟨rfl, frz_it⟩, trivial⟩ (H' := [⟨.pointer (some q3), [(Vl (.float .f64 a1_0)), (Vl (.float .f64 a1_1))], 27, none⟩, ⟨.pointer (some q2), [(Vl (.float .f64 a0_0)), (Vl (.float .f64 a0_1))], 27, none⟩]) frzH_refl) (ent_fn' Try.func16 isn16 rfl rfl) (laws_planeTo_sim _ _ hr9 : Go.Sx.Fn Try.prog 16 [(Vl (.float .f64 4697254411347427328)), (Sl KT27 ([(a0_0, a0_1), (a1_0, a1_1)]))] [] (fun x : Unit => (Vl (.bool r9))) (fun x => [])) pu_vl rfl rfl) (wt_none' rfl) fun ⟨⟩ => ?_
  refine sx_rd' (rd_un' rfl ru_not) rfl rfl (wt_none' rfl) ?_
  refine sx_nil' ?_
  show TX E K3 _
  refine tx_k' hK3 ?_
  refine cx_cond' rfl (fun h1 => ?_) (fun h1 => ?_)
  · replace hp := (br_t h1).symm.trans hp
    refine cx_seq' fun K4 hK4 => ?_
    refine cx_region' ?_
    refine sx_rd' (rd_assign' rfl) rfl rfl (wt_none' rfl) ?_
    refine sx_nil' ?_
    show TX E K4 _
    refine tx_k' hK4 ?_
    refine cx_retc' ?_
    replace hp := Option.some.inj hp
    subst hp
    refine tx_pick' (L' := [(4, (Vl (.bool true)))]) (H' := []) [] (sub_cons rfl sub_nil) (by decide) pick_nil ?_
    exact tx_ret1' Try.results8 rfl () (rv_tmp' rfl) (List.Sublist.refl _)
  · replace hp := (br_f h1).symm.trans hp
    refine cx_skip' ?_
    show TX E K2 _
    refine tx_k' hK2 ?_
    refine cx_seq' fun K5 hK5 => ?_
    refine cx_region' ?_
    refine sx_rd' (rd_load_agg' (i := 2) (o := 0) (nn := 2) rfl ⟨rfl, rfl, rfl, rfl⟩ rfl agg27 (l' := [(Vl (.float .f64 a0_0)), (Vl (.float .f64 a0_1))]) rfl) rfl rfl (wt_none' rfl) ?_
    refine sx_rd' (rd_load_agg' (i := 1) (o := 0) (nn := 2) rfl ⟨rfl, rfl, rfl, rfl⟩ rfl agg27 (l' := [(Vl (.float .f64 a1_0)), (Vl (.float .f64 a1_1))]) rfl) rfl rfl (wt_none' rfl) ?_
    obtain ⟨r13, hr13, hp⟩ := bind_some hp
    refine sx_ox' (ox_calln' (ent_fn' Try.func37 isn37 rfl rfl) (impl_PlaceDistance_sim _ _ _ _ hr13 : Go.Sx.Fn Try.prog 37 [(Ag [(Vl (.float .f64 a0_0)), (Vl (.float .f64 a0_1))]), (Ag [(Vl (.float .f64 a1_0)), (Vl (.float .f64 a1_1))])] [] (fun x : Unit => (Fl r13)) (fun x => [])) (Hn := fun x : Unit => [(Rw KT27 27 (Vs g8) ([(a0_0, a0_1), (a1_0, a1_1)])), ⟨.pointer (some q3), [(Vl (.float .f64 a1_0)), (Vl (.float .f64 a1_1))], 27, none⟩, ⟨.pointer (some q2), [(Vl (.float .f64 a0_0)), (Vl (.float .f64 a0_1))], 27, none⟩]) (fun _ => rfl) rfl rfl) (wt_none' rfl) fun ⟨⟩ => ?_
    refine sx_rd' (rd_assign' rfl) rfl rfl (wt_none' rfl) ?_
    refine sx_nil' ?_
    show TX E K5 _
    refine tx_k' hK5 ?_
    refine cx_seq' fun K6 hK6 => ?_
    refine cx_seq' fun K7 hK7 => ?_
    refine cx_region' ?_
    refine sx_rd' (rd_field0' rfl Try.underlying27 rfl info25 rfl) rfl rfl (wt_none' rfl) ?_
    refine sx_rd' (rd_load' (i := 2) (o := 0) rfl ⟨rfl, rfl, rfl, rfl⟩ rfl flat25) rfl rfl (wt_none' rfl) ?_
    refine sx_rd' (rd_field0' rfl Try.underlying27 rfl info25 rfl) rfl rfl (wt_none' rfl) ?_
    refine sx_rd' (rd_load' (i := 1) (o := 0) rfl ⟨rfl, rfl, rfl, rfl⟩ rfl flat25) rfl rfl (wt_none' rfl) ?_
    refine sx_rd' (rd_bin' rfl rfl eg_flt ru_feq) rfl rfl (wt_none' rfl) ?_
    refine sx_rd' (rd_move' rfl) rfl rfl (wt_none' rfl) ?_
    refine sx_cutn' 6 (fun (v1 : Bool) => (⟨57, [], [(2, (Vl (.pointer (some q2)))), (3, (Vl (.pointer (some q3)))), (5, (Fl r13)), (25, (Vl (.bool v1)))], [⟨.pointer (some q2), [(Vl (.float .f64 a0_0)), (Vl (.float .f64 a0_1))], 27, none⟩, ⟨.pointer (some q3), [(Vl (.float .f64 a1_0)), (Vl (.float .f64 a1_1))], 27, none⟩]⟩ : St)) (fun (v1 : Bool) => laws_FnPlaceDistance_j1 k a0_0 a1_0 a0_1 a1_1 r13 v1 = some out) ?_ ?_
    · rintro x1 hp
      replace hp : laws_FnPlaceDistance_j1 k a0_0 a1_0 a0_1 a1_1 r13 x1 = some out := hp
      unfold laws_FnPlaceDistance_j1 at hp
      refine sx_nil' ?_
      show TX E K7 _
      refine tx_k' hK7 ?_
      refine cx_cond' rfl (fun h3 => ?_) (fun h3 => ?_)
      · replace hp := (br_t h3).symm.trans hp
        refine cx_seq' fun K9 hK9 => ?_
        refine cx_plan' [] [] [(0, 1), (1, 1), (2, 1), (3, 1), (4, 1), (5, 1), (7, 1), (8, 1), (9, 1), (10, 1), (11, 1), (6, 0), (12, 0), (13, 1), (14, 1), (15, 1)] mixed (by kernel_rfl) ?_
        refine px_rd' rfl (rd_move' rfl) rfl rfl (wt_none' rfl) ?_
        refine px_rd' rfl (rd_field0' rfl Try.underlying27 rfl info25 rfl) rfl rfl (wt_none' rfl) ?_
        refine px_rd' rfl (rd_load' (i := 0) (o := 0) rfl ⟨rfl, rfl, rfl, rfl⟩ rfl flat25) rfl rfl (wt_none' rfl) ?_
        refine px_rd' rfl (rd_field0' rfl Try.underlying27 rfl info25 rfl) rfl rfl (wt_none' rfl) ?_
        refine px_rd' rfl (rd_load' (i := 1) (o := 0) rfl ⟨rfl, rfl, rfl, rfl⟩ rfl flat25) rfl rfl (wt_none' rfl) ?_
        obtain ⟨r31, hr31, hp⟩ := bind_some hp
        refine px_rd' rfl (rd_bin' rfl rfl eg_flt (ru_fsub hr31)) rfl rfl (wt_none' rfl) ?_
        refine px_rd' rfl (rd_field' (off := 1) rfl Try.underlying27 rfl info25 rfl) rfl rfl (wt_none' rfl) ?_
        refine px_rd' rfl (rd_load' (i := 0) (o := 1) rfl ⟨rfl, rfl, rfl, rfl⟩ rfl flat25) rfl rfl (wt_none' rfl) ?_
        refine px_rd' rfl (rd_field' (off := 1) rfl Try.underlying27 rfl info25 rfl) rfl rfl (wt_none' rfl) ?_
        refine px_rd' rfl (rd_load' (i := 1) (o := 1) rfl ⟨rfl, rfl, rfl, rfl⟩ rfl flat25) rfl rfl (wt_none' rfl) ?_
        obtain ⟨r37, hr37, hp⟩ := bind_some hp
        refine px_rd' rfl (rd_bin' rfl rfl eg_flt (ru_fsub hr37)) rfl rfl (wt_none' rfl) ?_
        obtain ⟨r32, hr32, hp⟩ := bind_some hp
        refine px_ox' rfl (ox_calln' (ent_fn' Try.func38 isn38 rfl rfl) (math_Abs_sim _ hr32 : Go.Sx.Fn Try.prog 38 [(Vl (.float .f64 r31))] [] (fun x : Unit => (Vl (.float .f64 r32))) (fun x => [])) (Hn := fun x : Unit => [⟨.pointer (some q2), [(Vl (.float .f64 a0_0)), (Vl (.float .f64 a0_1))], 27, none⟩, ⟨.pointer (some q3), [(Vl (.float .f64 a1_0)), (Vl (.float .f64 a1_1))], 27, none⟩]) (fun _ => rfl) rfl rfl) rfl bs_nil (wt_none' rfl) fun ⟨⟩ => ?_
        obtain ⟨r38, hr38, hp⟩ := bind_some hp
        refine px_ox' rfl (ox_calln' (ent_fn' Try.func38 isn38 rfl rfl) (math_Abs_sim _ hr38 : Go.Sx.Fn Try.prog 38 [(Vl (.float .f64 r37))] [] (fun x : Unit => (Vl (.float .f64 r38))) (fun x => [])) (Hn := fun x : Unit => [⟨.pointer (some q2), [(Vl (.float .f64 a0_0)), (Vl (.float .f64 a0_1))], 27, none⟩, ⟨.pointer (some q3), [(Vl (.float .f64 a1_0)), (Vl (.float .f64 a1_1))], 27, none⟩]) (fun _ => rfl) rfl rfl) rfl bs_nil (wt_none' rfl) fun ⟨⟩ => ?_
        obtain ⟨r39, hr39, hp⟩ := bind_some hp
        refine px_rd' rfl (rd_bin' rfl rfl eg_flt (ru_fadd hr39)) rfl rfl (wt_none' rfl) ?_
        refine px_rd' rfl (rd_fcmp' (fl_f rfl) (fl_v rfl) rfl) rfl rfl (wt_none' rfl) ?_
        refine px_rd' rfl (rd_assign' rfl) rfl rfl (wt_none' rfl) ?_
        refine px_nil' ?_
        show TX E K9 _
        refine tx_k' hK9 ?_
        refine cx_retc' ?_
        replace hp := Option.some.inj hp
        subst hp
        refine tx_pick' (L' := [(4, (Vl (.bool (feq r13 r39))))]) (H' := []) [] (sub_cons rfl sub_nil) (by decide) pick_nil ?_
        exact tx_ret1' Try.results8 rfl () (rv_tmp' rfl) (List.Sublist.refl _)
      · replace hp := (br_f h3).symm.trans hp
        refine cx_skip' ?_
        show TX E K6 _
        refine tx_k' hK6 ?_
        refine cx_seq' fun K10 hK10 => ?_
        refine cx_plan' [] [] [(0, 1), (1, 1), (3, 1), (2, 0), (4, 0), (5, 0), (6, 0), (7, 0), (8, 0), (9, 1), (10, 1), (11, 1), (12, 1), (13, 0), (14, 1), (15, 1), (16, 1)] mixed (by kernel_rfl) ?_
        refine px_rd' rfl (rd_move' rfl) rfl rfl (wt_none' rfl) ?_
        refine px_rd' rfl (rd_load_agg' (i := 0) (o := 0) (nn := 2) rfl ⟨rfl, rfl, rfl, rfl⟩ rfl agg27 (l' := [(Vl (.float .f64 a0_0)), (Vl (.float .f64 a0_1))]) rfl) rfl rfl (wt_none' rfl) ?_
        refine px_rd' rfl (rd_load_agg' (i := 1) (o := 0) (nn := 2) rfl ⟨rfl, rfl, rfl, rfl⟩ rfl agg27 (l' := [(Vl (.float .f64 a1_0)), (Vl (.float .f64 a1_1))]) rfl) rfl rfl (wt_none' rfl) ?_
        obtain ⟨r43, hr43, hp⟩ := bind_some hp
        refine px_ox' rfl (ox_calln' (ent_fn' Try.func27 isn27 rfl rfl) (laws_exactly_sim _ _ hr43 : Go.Sx.Fn Try.prog 27 [(Ag [(Vl (.float .f64 a0_0)), (Vl (.float .f64 a0_1))])] [] (fun x : Unit => (Ag [(Vl (.bool r43.1)), (Sl (Ki .u32) r43.2.1), (Vl (.int .i64 r43.2.2.1)), (Vl (.bool r43.2.2.2.1)), (Sl (Ki .u32) r43.2.2.2.2.1), (Vl (.int .i64 r43.2.2.2.2.2))])) (fun x => [])) (Hn := fun x : Unit => [⟨.pointer (some q2), [(Vl (.float .f64 a0_0)), (Vl (.float .f64 a0_1))], 27, none⟩, ⟨.pointer (some q3), [(Vl (.float .f64 a1_0)), (Vl (.float .f64 a1_1))], 27, none⟩]) (fun _ => rfl) rfl rfl) rfl bs_nil (wt_none' rfl) fun ⟨⟩ => ?_
        obtain ⟨r45, hr45, hp⟩ := bind_some hp
        refine px_ox' rfl (ox_calln' (ent_fn' Try.func27 isn27 rfl rfl) (laws_exactly_sim _ _ hr45 : Go.Sx.Fn Try.prog 27 [(Ag [(Vl (.float .f64 a1_0)), (Vl (.float .f64 a1_1))])] [] (fun x : Unit => (Ag [(Vl (.bool r45.1)), (Sl (Ki .u32) r45.2.1), (Vl (.int .i64 r45.2.2.1)), (Vl (.bool r45.2.2.2.1)), (Sl (Ki .u32) r45.2.2.2.2.1), (Vl (.int .i64 r45.2.2.2.2.2))])) (fun x => [])) (Hn := fun x : Unit => [⟨.pointer (some q2), [(Vl (.float .f64 a0_0)), (Vl (.float .f64 a0_1))], 27, none⟩, ⟨.pointer (some q3), [(Vl (.float .f64 a1_0)), (Vl (.float .f64 a1_1))], 27, none⟩]) (fun _ => rfl) rfl rfl) rfl bs_nil (wt_none' rfl) fun ⟨⟩ => ?_
        obtain ⟨r46, hr46, hp⟩ := bind_some hp
        refine px_ox' rfl (ox_calln' (ent_fn' Try.func41 isn41 rfl rfl) (spec_Square_sim _ _ _ _ _ _ _ _ _ _ _ _ hr46 : Go.Sx.Fn Try.prog 41 [(Ag [(Vl (.bool r43.1)), (Sl (Ki .u32) r43.2.1), (Vl (.int .i64 r43.2.2.1)), (Vl (.bool r43.2.2.2.1)), (Sl (Ki .u32) r43.2.2.2.2.1), (Vl (.int .i64 r43.2.2.2.2.2))]), (Ag [(Vl (.bool r45.1)), (Sl (Ki .u32) r45.2.1), (Vl (.int .i64 r45.2.2.1)), (Vl (.bool r45.2.2.2.1)), (Sl (Ki .u32) r45.2.2.2.2.1), (Vl (.int .i64 r45.2.2.2.2.2))])] [] (fun x : Unit => (Ag [(Vl (.bool r46.1)), (Sl (Ki .u32) r46.2.1), (Vl (.int .i64 r46.2.2))])) (fun x => [])) (Hn := fun x : Unit => [⟨.pointer (some q2), [(Vl (.float .f64 a0_0)), (Vl (.float .f64 a0_1))], 27, none⟩, ⟨.pointer (some q3), [(Vl (.float .f64 a1_0)), (Vl (.float .f64 a1_1))], 27, none⟩]) (fun _ => rfl) rfl rfl) rfl bs_nil (wt_none' rfl) fun ⟨⟩ => ?_
        obtain ⟨r47, hr47, hp⟩ := bind_some hp
        refine px_ox' rfl (ox_calln' (ent_fn' Try.func28 isn28 rfl rfl) (spec_Dyadic_Float_sim _ _ _ hr47 : Go.Sx.Fn Try.prog 28 [(Ag [(Vl (.bool r46.1)), (Sl (Ki .u32) r46.2.1), (Vl (.int .i64 r46.2.2))])] [] (fun x : Unit => (Fl r47)) (fun x => [])) (Hn := fun x : Unit => [⟨.pointer (some q2), [(Vl (.float .f64 a0_0)), (Vl (.float .f64 a0_1))], 27, none⟩, ⟨.pointer (some q3), [(Vl (.float .f64 a1_0)), (Vl (.float .f64 a1_1))], 27, none⟩]) (fun _ => rfl) rfl rfl) rfl bs_nil (wt_none' rfl) fun ⟨⟩ => ?_
        obtain ⟨u1, hu1, hp⟩ := bind_some hp
        refine tx_slot' 47 (y := (Vl (.float .f64 r47))) rfl (imp_num (num_some hu1).2) ?_
        obtain ⟨r48, hr48, hp⟩ := bind_some hp
        refine px_ox' rfl (ox_calln' (ent_fn' Try.func40 isn40 rfl rfl) (math_Sqrt_sim _ hr48 : Go.Sx.Fn Try.prog 40 [(Vl (.float .f64 r47))] [] (fun x : Unit => (Fl r48)) (fun x => [])) (Hn := fun x : Unit => [⟨.pointer (some q2), [(Vl (.float .f64 a0_0)), (Vl (.float .f64 a0_1))], 27, none⟩, ⟨.pointer (some q3), [(Vl (.float .f64 a1_0)), (Vl (.float .f64 a1_1))], 27, none⟩]) (fun _ => rfl) rfl rfl) rfl bs_nil (wt_none' rfl) fun ⟨⟩ => ?_
        obtain ⟨u2, hu2, hp⟩ := bind_some hp
        refine tx_slot' 41 (y := (Vl (.float .f64 r13))) rfl (imp_num (num_some hu2).2) ?_
        obtain ⟨u3, hu3, hp⟩ := bind_some hp
        refine tx_slot' 48 (y := (Vl (.float .f64 r48))) rfl (imp_num (num_some hu3).2) ?_
        obtain ⟨r49, hr49, hp⟩ := bind_some hp
        refine px_ox' rfl (ox_calln' (ent_fn' Try.func39 isn39 rfl rfl) (laws_nearTo_sim _ _ hr49 : Go.Sx.Fn Try.prog 39 [(Vl (.float .f64 r13)), (Vl (.float .f64 r48))] [] (fun x : Unit => (Vl (.bool r49))) (fun x => [])) (Hn := fun x : Unit => [⟨.pointer (some q2), [(Vl (.float .f64 a0_0)), (Vl (.float .f64 a0_1))], 27, none⟩, ⟨.pointer (some q3), [(Vl (.float .f64 a1_0)), (Vl (.float .f64 a1_1))], 27, none⟩]) (fun _ => rfl) rfl rfl) rfl bs_nil (wt_none' rfl) fun ⟨⟩ => ?_
        refine px_rd' rfl (rd_move' rfl) rfl rfl (wt_none' rfl) ?_
        refine px_cutn' 6 (fun (v2 : Bool) => (⟨57, [], [(56, (Vl (.bool v2)))], []⟩ : St)) (fun (v2 : Bool) => laws_FnPlaceDistance_j2 k v2 = some out) ?_ ?_
        · rintro x2 hp
          replace hp : laws_FnPlaceDistance_j2 k x2 = some out := hp
          unfold laws_FnPlaceDistance_j2 at hp
          refine px_rd' rfl (rd_assign' rfl) rfl rfl (wt_none' rfl) ?_
          refine px_nil' ?_
          show TX E K10 _
          refine tx_k' hK10 ?_
          refine cx_retc' ?_
          replace hp := Option.some.inj hp
          subst hp
          refine tx_pick' (L' := [(4, (Vl (.bool x2)))]) (H' := []) [] (sub_cons rfl sub_nil) (by decide) pick_nil ?_
          exact tx_ret1' Try.results8 rfl () (rv_tmp' rfl) (List.Sublist.refl _)
        · intro K11 hK11
          rcases br_cases hp with ⟨h4, hp⟩ | ⟨h4, hp⟩
          · refine px_rd' rfl (rd_move' rfl) rfl rfl (wt_is' (wt_guard' rfl rfl rfl) (beq_tt h4)) ?_
            refine px_rd' rfl (rd_load_agg' (i := 1) (o := 0) (nn := 2) rfl ⟨rfl, rfl, rfl, rfl⟩ rfl agg27 (l' := [(Vl (.float .f64 a1_0)), (Vl (.float .f64 a1_1))]) rfl) rfl rfl (wt_is' (wt_guard' rfl rfl rfl) (beq_tt h4)) ?_
            refine px_rd' rfl (rd_load_agg' (i := 0) (o := 0) (nn := 2) rfl ⟨rfl, rfl, rfl, rfl⟩ rfl agg27 (l' := [(Vl (.float .f64 a0_0)), (Vl (.float .f64 a0_1))]) rfl) rfl rfl (wt_is' (wt_guard' rfl rfl rfl) (beq_tt h4)) ?_
            obtain ⟨r54, hr54, hp⟩ := bind_some hp
            refine px_ox' rfl (ox_calln' (ent_fn' Try.func37 isn37 rfl rfl) (impl_PlaceDistance_sim _ _ _ _ hr54 : Go.Sx.Fn Try.prog 37 [(Ag [(Vl (.float .f64 a1_0)), (Vl (.float .f64 a1_1))]), (Ag [(Vl (.float .f64 a0_0)), (Vl (.float .f64 a0_1))])] [] (fun x : Unit => (Fl r54)) (fun x => [])) (Hn := fun x : Unit => [⟨.pointer (some q2), [(Vl (.float .f64 a0_0)), (Vl (.float .f64 a0_1))], 27, none⟩, ⟨.pointer (some q3), [(Vl (.float .f64 a1_0)), (Vl (.float .f64 a1_1))], 27, none⟩]) (fun _ => rfl) rfl rfl) rfl bs_nil (wt_is' (wt_guard' rfl rfl rfl) (beq_tt h4)) fun ⟨⟩ => ?_
            refine px_rd' rfl (rd_fcmp' (fl_f rfl) (fl_f rfl) rfl) rfl rfl (wt_is' (wt_guard' rfl rfl rfl) (beq_tt h4)) ?_
            refine px_rd' rfl (rd_pick_true' rfl h4 rfl) rfl rfl (wt_none' rfl) ?_
            refine px_nil' ?_
            show TX E K11 _
            exact tx_pick' [] (sub_cons rfl sub_nil) (by decide) pick_nil (hK11 (feq r13 r54) hp)
          · refine px_skip' rfl rfl rfl (wt_is' (wt_guard' rfl rfl rfl) (beq_ft h4)) ?_
            refine px_skip' rfl rfl rfl (wt_is' (wt_guard' rfl rfl rfl) (beq_ft h4)) ?_
            refine px_skip' rfl rfl rfl (wt_is' (wt_guard' rfl rfl rfl) (beq_ft h4)) ?_
            refine px_oskip' rfl rfl rfl (wt_is' (wt_guard' rfl rfl rfl) (beq_ft h4)) ?_
            refine px_skip' rfl rfl rfl (wt_is' (wt_guard' rfl rfl rfl) (beq_ft h4)) ?_
            refine px_rd' rfl (rd_pick_false' rfl h4 rfl) rfl rfl (wt_none' rfl) ?_
            refine px_nil' ?_
            show TX E K11 _
            exact tx_pick' [] (sub_cons rfl sub_nil) (by decide) pick_nil (hK11 false hp)
    · intro K8 hK8
      rcases br_cases hp with ⟨h2, hp⟩ | ⟨h2, hp⟩
      · refine sx_skip' rfl rfl (wt_is' (wt_guard' rfl rfl rfl) (beq_tf h2)) ?_
        refine sx_skip' rfl rfl (wt_is' (wt_guard' rfl rfl rfl) (beq_tf h2)) ?_
        refine sx_skip' rfl rfl (wt_is' (wt_guard' rfl rfl rfl) (beq_tf h2)) ?_
        refine sx_skip' rfl rfl (wt_is' (wt_guard' rfl rfl rfl) (beq_tf h2)) ?_
        refine sx_skip' rfl rfl (wt_is' (wt_guard' rfl rfl rfl) (beq_tf h2)) ?_
        refine sx_rd' (rd_pick_true' rfl h2 rfl) rfl rfl (wt_none' rfl) ?_
        refine sx_nil' ?_
        show TX E K8 _
        exact tx_pick' [2, 1] (sub_cons rfl (sub_cons rfl (sub_cons rfl (sub_cons rfl sub_nil)))) (by decide) (pick_cons rfl (pick_cons rfl pick_nil)) (hK8 true hp)
      · refine sx_rd' (rd_field' (off := 1) rfl Try.underlying27 rfl info25 rfl) rfl rfl (wt_is' (wt_guard' rfl rfl rfl) (beq_ff h2)) ?_
        refine sx_rd' (rd_load' (i := 2) (o := 1) rfl ⟨rfl, rfl, rfl, rfl⟩ rfl flat25) rfl rfl (wt_is' (wt_guard' rfl rfl rfl) (beq_ff h2)) ?_
        refine sx_rd' (rd_field' (off := 1) rfl Try.underlying27 rfl info25 rfl) rfl rfl (wt_is' (wt_guard' rfl rfl rfl) (beq_ff h2)) ?_
        refine sx_rd' (rd_load' (i := 1) (o := 1) rfl ⟨rfl, rfl, rfl, rfl⟩ rfl flat25) rfl rfl (wt_is' (wt_guard' rfl rfl rfl) (beq_ff h2)) ?_
        refine sx_rd' (rd_bin' rfl rfl eg_flt ru_feq) rfl rfl (wt_is' (wt_guard' rfl rfl rfl) (beq_ff h2)) ?_
        refine sx_rd' (rd_pick_false' rfl h2 rfl) rfl rfl (wt_none' rfl) ?_
        refine sx_nil' ?_
        show TX E K8 _
        exact tx_pick' [2, 1] (sub_cons rfl (sub_cons rfl (sub_cons rfl (sub_cons rfl sub_nil)))) (by decide) (pick_cons rfl (pick_cons rfl pick_nil)) (hK8 (feq a0_1 a1_1) hp)

end Go.Proofs.Ytnemkhcjmenfnaa
