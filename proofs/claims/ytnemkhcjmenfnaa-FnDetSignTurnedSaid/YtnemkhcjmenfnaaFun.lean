/-
  Plain functions for the Go functions that this law reaches, and that each call does what its plain function says. Printed by a program of ours.
-/
import Derived.Test.YtnemkhcjmenfnaaProg
import Derived.Test.YtnemkhcjmenfnaaSxZ
import Derived.Test.YtnemkhcjmenfnaaFun1
namespace Go.Proofs.Ytnemkhcjmenfnaa
open Go.Sx
set_option linter.unusedVariables false
set_option maxRecDepth 100000

def laws_FnDetSignTurned_j5 (k : Nat) (x5 : Bool) : Option (Bool) :=
  some x5
def laws_FnDetSignTurned_j4 (k : Nat) (x4 : Bool) : Option (Bool) :=
  laws_FnDetSignTurned_j5 k x4
def laws_FnDetSignTurned_j3 (k : Nat) (a0 : Nat) (a3 : Nat) (a1 : Nat) (a2 : Nat) (a4 : Int) (r25 : Int) (x3 : Bool) : Option (Bool) :=
  br x3
    (some false)
    ((spec_DyadicOf k a0) >>= fun r69 =>
    (spec_DyadicOf k a3) >>= fun r71 =>
    (spec_Dyadic_Mul k r69.1 r69.2.1 r69.2.2 r71.1 r71.2.1 r71.2.2) >>= fun r72 =>
    (spec_DyadicOf k a1) >>= fun r74 =>
    (spec_DyadicOf k a2) >>= fun r76 =>
    (spec_Dyadic_Mul k r74.1 r74.2.1 r74.2.2 r76.1 r76.2.1 r76.2.2) >>= fun r77 =>
    (spec_Dyadic_Sub k r72.1 r72.2.1 r72.2.2 r77.1 r77.2.1 r77.2.2) >>= fun r78 =>
    (irem a4 1000) >>= fun r80 =>
    (spec_Dyadic_Sign k r78.1 r78.2.1 r78.2.2) >>= fun r85 =>
    br ((decide (r25 = 0)) == (decide (r85 = 0)))
      ((some (gmul (i2f r80) a0)) >>= fun r91 =>
      (some (gmul (i2f r80) a1)) >>= fun r94 =>
      (num r91) >>= fun u1 =>
      (num r94) >>= fun u2 =>
      (laws_wholeTo k 4724276009111650304 ([r91, r94])) >>= fun r96 =>
      br (!r96)
        (laws_FnDetSignTurned_j4 k true)
        ((some (gmul (i2f r80) a0)) >>= fun r103 =>
        (some (gmul (i2f r80) a1)) >>= fun r106 =>
        (num r103) >>= fun u3 =>
        (num r106) >>= fun u4 =>
        (impl_DetSign k a0 a1 r103 r106) >>= fun r107 =>
        laws_FnDetSignTurned_j4 k (decide (r107 = 0))))
      (laws_FnDetSignTurned_j5 k false))
def laws_FnDetSignTurned_j2 (k : Nat) (a0 : Nat) (a3 : Nat) (a1 : Nat) (a2 : Nat) (a4 : Int) (r25 : Int) (x2 : Bool) : Option (Bool) :=
  br x2
    (laws_FnDetSignTurned_j3 k a0 a3 a1 a2 a4 r25 true)
    ((impl_DetSign k a0 a1 (fneg a2) (fneg a3)) >>= fun r63 =>
    laws_FnDetSignTurned_j3 k a0 a3 a1 a2 a4 r25 (!decide (r63 = (isub .i64 0 r25))))
def laws_FnDetSignTurned_j1 (k : Nat) (a0 : Nat) (a3 : Nat) (a1 : Nat) (a2 : Nat) (a4 : Int) (r25 : Int) (x1 : Bool) : Option (Bool) :=
  br x1
    (laws_FnDetSignTurned_j2 k a0 a3 a1 a2 a4 r25 true)
    ((impl_DetSign k (fneg a0) (fneg a1) a2 a3) >>= fun r51 =>
    laws_FnDetSignTurned_j2 k a0 a3 a1 a2 a4 r25 (!decide (r51 = (isub .i64 0 r25))))
def laws_FnDetSignTurned (k : Nat) (a0 : Nat) (a1 : Nat) (a2 : Nat) (a3 : Nat) (a4 : Int) : Option (Bool) :=
  (laws_wholeTo k 4724276009111650304 ([a0, a1, a2, a3])) >>= fun r19 =>
  br (!r19)
    (some true)
    ((impl_DetSign k a0 a1 a2 a3) >>= fun r25 =>
    (impl_DetSign k a2 a3 a0 a1) >>= fun r30 =>
    br (!decide (r30 = (isub .i64 0 r25)))
      (laws_FnDetSignTurned_j1 k a0 a3 a1 a2 a4 r25 true)
      ((impl_DetSign k a1 a0 a3 a2) >>= fun r39 =>
      laws_FnDetSignTurned_j1 k a0 a3 a1 a2 a4 r25 (!decide (r39 = (isub .i64 0 r25)))))

theorem laws_FnDetSignTurned_sim {k : Nat}  (a0 : Nat) (a1 : Nat) (a2 : Nat) (a3 : Nat) (a4 : Int) {out : Bool} (hp : laws_FnDetSignTurned k a0 a1 a2 a3 a4 = some out) : Go.Sx.Fn Try.prog 10 [(Vl (.float .f64 a0)), (Vl (.float .f64 a1)), (Vl (.float .f64 a2)), (Vl (.float .f64 a3)), (Vl (.int .i64 a4))] [] (fun w : Unit => (Vl (.bool out))) (fun w => []) := by
  unfold laws_FnDetSignTurned at hp
  refine fn_of Try.func10 rfl Try.ntmps10 rfl fun E hM => ?_
  refine cx_seq' fun K1 hK1 => ?_
  refine cx_region' ?_
  refine sx_rd' (rd_assign' rfl) rfl rfl (wt_none' rfl) ?_
  refine sx_nil' ?_
  show TX E K1 _
  refine tx_k' hK1 ?_
  refine cx_seq' fun K2 hK2 => ?_
  refine cx_seq' fun K3 hK3 => ?_
  refine cx_region' ?_
  refine sx_rd' (rd_move' rfl) rfl rfl (wt_none' rfl) ?_
  refine sx_rd' (rd_move' rfl) rfl rfl (wt_none' rfl) ?_
  refine sx_rd' (rd_move' rfl) rfl rfl (wt_none' rfl) ?_
  refine sx_rd' (rd_move' rfl) rfl rfl (wt_none' rfl) ?_
  refine sx_ox' (ox_rowlit' (K := Kf) (xs := [a0, a1, a2, a3]) (qs := [(0, [(Vl (.float .f64 a0))]), (1, [(Vl (.float .f64 a1))]), (2, [(Vl (.float .f64 a2))]), (3, [(Vl (.float .f64 a3))])]) ⟨rfl, ⟨_, rfl, (lv_vl rfl rfl)⟩, ⟨rfl, ⟨_, rfl, (lv_vl rfl rfl)⟩, ⟨rfl, ⟨_, rfl, (lv_vl rfl rfl)⟩, ⟨rfl, ⟨_, rfl, (lv_vl rfl rfl)⟩, trivial⟩⟩⟩⟩ Try.underlying30 info25 rfl rfl rfl rfl rfl (by kernel_rfl) rfl rfl rfl) (wt_none' rfl) fun g18 => ?_
  obtain ⟨r19, hr19, hp⟩ := bind_some hp
  refine sx_ox' (ox_brw' (frz_row 0 [(18, (Vl (Vs g18)), (Sl Kf ([a0, a1, a2, a3])))] (K := Kf) (xs := [a0, a1, a2, a3]) (by decide) rfl ⟨⟨rfl, frz_it⟩, trivial⟩ (H' := []) frzH_refl) (ent_fn' Try.func44 isn44 rfl rfl) (laws_wholeTo_sim _ _ hr19 : Go.Sx.Fn Try.prog 44 [(Vl (.float .f64 4724276009111650304)), (Sl Kf ([a0, a1, a2, a3]))] [] (fun x : Unit => (Vl (.bool r19))) (fun x => [])) pu_vl rfl rfl) (wt_none' rfl) fun ⟨⟩ => ?_
  refine sx_rd' (rd_un' rfl ru_not) rfl rfl (wt_none' rfl) ?_
  refine sx_nil' ?_
  show TX E K3 _
  refine tx_k' hK3 ?_
  refine cx_cond' rfl (fun h1 => ?_) (fun h1 => ?_)
  · replace hp := (br_t h1).symm.trans hp
    refine cx_seq' fun K4 hK4 => ?_
    refine cx_region' ?_
    refine sx_rd' (rd_assign' rfl) rfl rfl (wt_none' rfl) ?_
    refine sx_nil' ?_
    show TX E K4 _
    refine tx_k' hK4 ?_
    refine cx_retc' ?_
    replace hp := Option.some.inj hp
    subst hp
    refine tx_pick' (L' := [(10, (Vl (.bool true)))]) (H' := []) [] (sub_cons rfl sub_nil) (by decide) pick_nil ?_
    exact tx_ret1' Try.results10 rfl () (rv_tmp' rfl) (List.Sublist.refl _)
  · replace hp := (br_f h1).symm.trans hp
    refine cx_skip' ?_
    show TX E K2 _
    refine tx_k' hK2 ?_
    refine cx_seq' fun K5 hK5 => ?_
    refine cx_region' ?_
    refine sx_rd' (rd_move' rfl) rfl rfl (wt_none' rfl) ?_
    refine sx_rd' (rd_move' rfl) rfl rfl (wt_none' rfl) ?_
    refine sx_rd' (rd_move' rfl) rfl rfl (wt_none' rfl) ?_
    refine sx_rd' (rd_move' rfl) rfl rfl (wt_none' rfl) ?_
    obtain ⟨r25, hr25, hp⟩ := bind_some hp
    refine sx_ox' (ox_calln' (ent_fn' Try.func45 isn45 rfl rfl) (impl_DetSign_sim _ _ _ _ hr25 : Go.Sx.Fn Try.prog 45 [(Vl (.float .f64 a0)), (Vl (.float .f64 a1)), (Vl (.float .f64 a2)), (Vl (.float .f64 a3))] [] (fun x : Unit => (Vl (.int .i64 r25))) (fun x => [])) (Hn := fun x : Unit => [(Rw Kf 25 (Vs g18) ([a0, a1, a2, a3]))]) (fun _ => rfl) rfl rfl) (wt_none' rfl) fun ⟨⟩ => ?_
    refine sx_rd' (rd_assign' rfl) rfl rfl (wt_none' rfl) ?_
    refine sx_nil' ?_
    show TX E K5 _
    refine tx_k' hK5 ?_
    refine cx_seq' fun K6 hK6 => ?_
    refine cx_seq' fun K7 hK7 => ?_
    refine cx_region' ?_
    refine sx_rd' (rd_move' rfl) rfl rfl (wt_none' rfl) ?_
    refine sx_rd' (rd_move' rfl) rfl rfl (wt_none' rfl) ?_
    refine sx_rd' (rd_move' rfl) rfl rfl (wt_none' rfl) ?_
    refine sx_rd' (rd_move' rfl) rfl rfl (wt_none' rfl) ?_
    obtain ⟨r30, hr30, hp⟩ := bind_some hp
    refine sx_ox' (ox_calln' (ent_fn' Try.func45 isn45 rfl rfl) (impl_DetSign_sim _ _ _ _ hr30 : Go.Sx.Fn Try.prog 45 [(Vl (.float .f64 a2)), (Vl (.float .f64 a3)), (Vl (.float .f64 a0)), (Vl (.float .f64 a1))] [] (fun x : Unit => (Vl (.int .i64 r30))) (fun x => [])) (Hn := fun x : Unit => [(Rw Kf 25 (Vs g18) ([a0, a1, a2, a3]))]) (fun _ => rfl) rfl rfl) (wt_none' rfl) fun ⟨⟩ => ?_
    refine sx_rd' (rd_move' rfl) rfl rfl (wt_none' rfl) ?_
    refine sx_rd' (rd_un' rfl ru_ineg) rfl rfl (wt_none' rfl) ?_
    refine sx_rd' (rd_bin' rfl rfl eg_int ru_neq) rfl rfl (wt_none' rfl) ?_
    refine sx_rd' (rd_move' rfl) rfl rfl (wt_none' rfl) ?_
    refine sx_cutn' 9 (fun (v1 : Bool) => (⟨111, [], [(0, (Vl (.float .f64 a0))), (1, (Vl (.float .f64 a1))), (2, (Vl (.float .f64 a2))), (3, (Vl (.float .f64 a3))), (4, (Vl (.int .i64 a4))), (11, (Vl (.int .i64 r25))), (43, (Vl (.bool v1)))], []⟩ : St)) (fun (v1 : Bool) => laws_FnDetSignTurned_j1 k a0 a3 a1 a2 a4 r25 v1 = some out) ?_ ?_
    · rintro x1 hp
      replace hp : laws_FnDetSignTurned_j1 k a0 a3 a1 a2 a4 r25 x1 = some out := hp
      unfold laws_FnDetSignTurned_j1 at hp
      refine sx_rd' (rd_move' rfl) rfl rfl (wt_none' rfl) ?_
      refine sx_cutn' 11 (fun (v2 : Bool) => (⟨111, [], [(0, (Vl (.float .f64 a0))), (1, (Vl (.float .f64 a1))), (2, (Vl (.float .f64 a2))), (3, (Vl (.float .f64 a3))), (4, (Vl (.int .i64 a4))), (11, (Vl (.int .i64 r25))), (55, (Vl (.bool v2)))], []⟩ : St)) (fun (v2 : Bool) => laws_FnDetSignTurned_j2 k a0 a3 a1 a2 a4 r25 v2 = some out) ?_ ?_
      · rintro x2 hp
        replace hp : laws_FnDetSignTurned_j2 k a0 a3 a1 a2 a4 r25 x2 = some out := hp
        unfold laws_FnDetSignTurned_j2 at hp
        refine sx_rd' (rd_move' rfl) rfl rfl (wt_none' rfl) ?_
        refine sx_cutn' 11 (fun (v3 : Bool) => (⟨111, [], [(0, (Vl (.float .f64 a0))), (1, (Vl (.float .f64 a1))), (2, (Vl (.float .f64 a2))), (3, (Vl (.float .f64 a3))), (4, (Vl (.int .i64 a4))), (11, (Vl (.int .i64 r25))), (67, (Vl (.bool v3)))], []⟩ : St)) (fun (v3 : Bool) => laws_FnDetSignTurned_j3 k a0 a3 a1 a2 a4 r25 v3 = some out) ?_ ?_
        · rintro x3 hp
          replace hp : laws_FnDetSignTurned_j3 k a0 a3 a1 a2 a4 r25 x3 = some out := hp
          unfold laws_FnDetSignTurned_j3 at hp
          refine sx_nil' ?_
          show TX E K7 _
          refine tx_k' hK7 ?_
          refine cx_cond' rfl (fun h5 => ?_) (fun h5 => ?_)
          · replace hp := (br_t h5).symm.trans hp
            refine cx_seq' fun K11 hK11 => ?_
            refine cx_region' ?_
            refine sx_rd' (rd_assign' rfl) rfl rfl (wt_none' rfl) ?_
            refine sx_nil' ?_
            show TX E K11 _
            refine tx_k' hK11 ?_
            refine cx_retc' ?_
            replace hp := Option.some.inj hp
            subst hp
            refine tx_pick' (L' := [(10, (Vl (.bool false)))]) (H' := []) [] (sub_cons rfl sub_nil) (by decide) pick_nil ?_
            exact tx_ret1' Try.results10 rfl () (rv_tmp' rfl) (List.Sublist.refl _)
          · replace hp := (br_f h5).symm.trans hp
            refine cx_skip' ?_
            show TX E K6 _
            refine tx_k' hK6 ?_
            refine cx_seq' fun K12 hK12 => ?_
            refine cx_region' ?_
            refine sx_rd' (rd_move' rfl) rfl rfl (wt_none' rfl) ?_
            obtain ⟨r69, hr69, hp⟩ := bind_some hp
            refine sx_ox' (ox_calln' (ent_fn' Try.func46 isn46 rfl rfl) (spec_DyadicOf_sim _ hr69 : Go.Sx.Fn Try.prog 46 [(Vl (.float .f64 a0))] [] (fun x : Unit => (Ag [(Vl (.bool r69.1)), (Sl (Ki .u32) r69.2.1), (Vl (.int .i64 r69.2.2))])) (fun x => [])) (Hn := fun x : Unit => []) (fun _ => rfl) rfl rfl) (wt_none' rfl) fun ⟨⟩ => ?_
            refine sx_rd' (rd_move' rfl) rfl rfl (wt_none' rfl) ?_
            obtain ⟨r71, hr71, hp⟩ := bind_some hp
            refine sx_ox' (ox_calln' (ent_fn' Try.func46 isn46 rfl rfl) (spec_DyadicOf_sim _ hr71 : Go.Sx.Fn Try.prog 46 [(Vl (.float .f64 a3))] [] (fun x : Unit => (Ag [(Vl (.bool r71.1)), (Sl (Ki .u32) r71.2.1), (Vl (.int .i64 r71.2.2))])) (fun x => [])) (Hn := fun x : Unit => []) (fun _ => rfl) rfl rfl) (wt_none' rfl) fun ⟨⟩ => ?_
            obtain ⟨r72, hr72, hp⟩ := bind_some hp
            refine sx_ox' (ox_calln' (ent_fn' Try.func47 isn47 rfl rfl) (spec_Dyadic_Mul_sim _ _ _ _ _ _ hr72 : Go.Sx.Fn Try.prog 47 [(Ag [(Vl (.bool r69.1)), (Sl (Ki .u32) r69.2.1), (Vl (.int .i64 r69.2.2))]), (Ag [(Vl (.bool r71.1)), (Sl (Ki .u32) r71.2.1), (Vl (.int .i64 r71.2.2))])] [] (fun x : Unit => (Ag [(Vl (.bool r72.1)), (Sl (Ki .u32) r72.2.1), (Vl (.int .i64 r72.2.2))])) (fun x => [])) (Hn := fun x : Unit => []) (fun _ => rfl) rfl rfl) (wt_none' rfl) fun ⟨⟩ => ?_
            refine sx_rd' (rd_move' rfl) rfl rfl (wt_none' rfl) ?_
            obtain ⟨r74, hr74, hp⟩ := bind_some hp
            refine sx_ox' (ox_calln' (ent_fn' Try.func46 isn46 rfl rfl) (spec_DyadicOf_sim _ hr74 : Go.Sx.Fn Try.prog 46 [(Vl (.float .f64 a1))] [] (fun x : Unit => (Ag [(Vl (.bool r74.1)), (Sl (Ki .u32) r74.2.1), (Vl (.int .i64 r74.2.2))])) (fun x => [])) (Hn := fun x : Unit => []) (fun _ => rfl) rfl rfl) (wt_none' rfl) fun ⟨⟩ => ?_
            refine sx_rd' (rd_move' rfl) rfl rfl (wt_none' rfl) ?_
            obtain ⟨r76, hr76, hp⟩ := bind_some hp
            refine sx_ox' (ox_calln' (ent_fn' Try.func46 isn46 rfl rfl) (spec_DyadicOf_sim _ hr76 : Go.Sx.Fn Try.prog 46 [(Vl (.float .f64 a2))] [] (fun x : Unit => (Ag [(Vl (.bool r76.1)), (Sl (Ki .u32) r76.2.1), (Vl (.int .i64 r76.2.2))])) (fun x => [])) (Hn := fun x : Unit => []) (fun _ => rfl) rfl rfl) (wt_none' rfl) fun ⟨⟩ => ?_
            obtain ⟨r77, hr77, hp⟩ := bind_some hp
            refine sx_ox' (ox_calln' (ent_fn' Try.func47 isn47 rfl rfl) (spec_Dyadic_Mul_sim _ _ _ _ _ _ hr77 : Go.Sx.Fn Try.prog 47 [(Ag [(Vl (.bool r74.1)), (Sl (Ki .u32) r74.2.1), (Vl (.int .i64 r74.2.2))]), (Ag [(Vl (.bool r76.1)), (Sl (Ki .u32) r76.2.1), (Vl (.int .i64 r76.2.2))])] [] (fun x : Unit => (Ag [(Vl (.bool r77.1)), (Sl (Ki .u32) r77.2.1), (Vl (.int .i64 r77.2.2))])) (fun x => [])) (Hn := fun x : Unit => []) (fun _ => rfl) rfl rfl) (wt_none' rfl) fun ⟨⟩ => ?_
            obtain ⟨r78, hr78, hp⟩ := bind_some hp
            refine sx_ox' (ox_calln' (ent_fn' Try.func48 isn48 rfl rfl) (spec_Dyadic_Sub_sim _ _ _ _ _ _ hr78 : Go.Sx.Fn Try.prog 48 [(Ag [(Vl (.bool r72.1)), (Sl (Ki .u32) r72.2.1), (Vl (.int .i64 r72.2.2))]), (Ag [(Vl (.bool r77.1)), (Sl (Ki .u32) r77.2.1), (Vl (.int .i64 r77.2.2))])] [] (fun x : Unit => (Ag [(Vl (.bool r78.1)), (Sl (Ki .u32) r78.2.1), (Vl (.int .i64 r78.2.2))])) (fun x => [])) (Hn := fun x : Unit => []) (fun _ => rfl) rfl rfl) (wt_none' rfl) fun ⟨⟩ => ?_
            refine sx_ox' (ox_alloc' info40 rfl rfl rfl rfl (l := [(Vl (.bool false)), (Vl (.slice none 0 0)), (Vl (.int .i64 0))]) rfl) (wt_none' rfl) fun q12 => ?_
            refine sx_ox' (ox_store' (i := 0) (o := 0) rfl rfl (lv_ag _) ⟨rfl, rfl, rfl, rfl⟩ rfl info40 rfl (H' := [⟨.pointer (some q12), [(Vl (.bool r78.1)), (Sl (Ki .u32) r78.2.1), (Vl (.int .i64 r78.2.2))], 40, none⟩]) rfl) (wt_none' rfl) fun _ => ?_
            refine sx_nil' ?_
            show TX E K12 _
            refine tx_k' hK12 ?_
            refine cx_seq' fun K13 hK13 => ?_
            refine cx_region' ?_
            refine sx_rd' (rd_move' rfl) rfl rfl (wt_none' rfl) ?_
            obtain ⟨r80, hr80, hp⟩ := bind_some hp
            refine sx_rd' (rd_bin' rfl rfl eg_int (ru_rem hr80)) rfl rfl (wt_none' rfl) ?_
            refine sx_rd' (rd_conv' rfl (ru_i2f (by rw [Try.underlying3]; rfl) Try.underlying25)) rfl rfl (wt_none' rfl) ?_
            refine sx_rd' (rd_assign' rfl) rfl rfl (wt_none' rfl) ?_
            refine sx_nil' ?_
            show TX E K13 _
            refine tx_k' hK13 ?_
            refine cx_seq' fun K14 hK14 => ?_
            refine cx_region' ?_
            refine sx_rd' (rd_move' rfl) rfl rfl (wt_none' rfl) ?_
            refine sx_rd' (rd_bin' rfl rfl eg_int ru_eql) rfl rfl (wt_none' rfl) ?_
            refine sx_rd' (rd_load_agg' (i := 0) (o := 0) (nn := 3) rfl ⟨rfl, rfl, rfl, rfl⟩ rfl agg40 (l' := [(Vl (.bool r78.1)), (Sl (Ki .u32) r78.2.1), (Vl (.int .i64 r78.2.2))]) rfl) rfl rfl (wt_none' rfl) ?_
            obtain ⟨r85, hr85, hp⟩ := bind_some hp
            refine sx_ox' (ox_calln' (ent_fn' Try.func49 isn49 rfl rfl) (spec_Dyadic_Sign_sim _ _ _ hr85 : Go.Sx.Fn Try.prog 49 [(Ag [(Vl (.bool r78.1)), (Sl (Ki .u32) r78.2.1), (Vl (.int .i64 r78.2.2))])] [] (fun x : Unit => (Vl (.int .i64 r85))) (fun x => [])) (Hn := fun x : Unit => [⟨.pointer (some q12), [(Vl (.bool r78.1)), (Sl (Ki .u32) r78.2.1), (Vl (.int .i64 r78.2.2))], 40, none⟩]) (fun _ => rfl) rfl rfl) (wt_none' rfl) fun ⟨⟩ => ?_
            refine sx_rd' (rd_bin' rfl rfl eg_int ru_eql) rfl rfl (wt_none' rfl) ?_
            refine sx_rd' (rd_bin' rfl rfl eg_bool (ru_beq Try.underlying4)) rfl rfl (wt_none' rfl) ?_
            refine sx_rd' (rd_move' rfl) rfl rfl (wt_none' rfl) ?_
            refine sx_cutn' 22 (fun (v5 : Bool) => (⟨111, [], [(110, (Vl (.bool v5)))], []⟩ : St)) (fun (v5 : Bool) => laws_FnDetSignTurned_j5 k v5 = some out) ?_ ?_
            · rintro x5 hp
              replace hp : laws_FnDetSignTurned_j5 k x5 = some out := hp
              unfold laws_FnDetSignTurned_j5 at hp
              refine sx_rd' (rd_assign' rfl) rfl rfl (wt_none' rfl) ?_
              refine sx_nil' ?_
              show TX E K14 _
              refine tx_k' hK14 ?_
              refine cx_retc' ?_
              replace hp := Option.some.inj hp
              subst hp
              refine tx_pick' (L' := [(10, (Vl (.bool x5)))]) (H' := []) [] (sub_cons rfl sub_nil) (by decide) pick_nil ?_
              exact tx_ret1' Try.results10 rfl () (rv_tmp' rfl) (List.Sublist.refl _)
            · intro K16 hK16
              rcases br_cases hp with ⟨h6, hp⟩ | ⟨h6, hp⟩
              · refine sx_rd' (rd_move' rfl) rfl rfl (wt_is' (wt_guard' rfl rfl rfl) (beq_tt h6)) ?_
                refine sx_rd' (rd_move' rfl) rfl rfl (wt_is' (wt_guard' rfl rfl rfl) (beq_tt h6)) ?_
                obtain ⟨r91, hr91, hp⟩ := bind_some hp
                refine sx_ox' (ox_fop' (.inr (.inr (.inl rfl))) (fl_v rfl) (fl_v rfl) (Option.some.inj hr91) rfl rfl) (wt_is' (wt_guard' rfl rfl rfl) (beq_tt h6)) fun _ => ?_
                refine sx_rd' (rd_move' rfl) rfl rfl (wt_is' (wt_guard' rfl rfl rfl) (beq_tt h6)) ?_
                refine sx_rd' (rd_move' rfl) rfl rfl (wt_is' (wt_guard' rfl rfl rfl) (beq_tt h6)) ?_
                obtain ⟨r94, hr94, hp⟩ := bind_some hp
                refine sx_ox' (ox_fop' (.inr (.inr (.inl rfl))) (fl_v rfl) (fl_v rfl) (Option.some.inj hr94) rfl rfl) (wt_is' (wt_guard' rfl rfl rfl) (beq_tt h6)) fun _ => ?_
                obtain ⟨u1, hu1, hp⟩ := bind_some hp
                refine tx_slot' 91 (y := (Vl (.float .f64 r91))) rfl (imp_num (num_some hu1).2) ?_
                obtain ⟨u2, hu2, hp⟩ := bind_some hp
                refine tx_slot' 94 (y := (Vl (.float .f64 r94))) rfl (imp_num (num_some hu2).2) ?_
                refine sx_ox' (ox_rowlit' (K := Kf) (xs := [r91, r94]) (qs := [(0, [(Vl (.float .f64 r91))]), (1, [(Vl (.float .f64 r94))])]) ⟨rfl, ⟨_, rfl, (lv_vl rfl rfl)⟩, ⟨rfl, ⟨_, rfl, (lv_vl rfl rfl)⟩, trivial⟩⟩ Try.underlying30 info25 rfl rfl rfl rfl rfl (by kernel_rfl) rfl rfl rfl) (wt_is' (wt_guard' rfl rfl rfl) (beq_tt h6)) fun g95 => ?_
                obtain ⟨r96, hr96, hp⟩ := bind_some hp
                refine sx_ox' (ox_brw' (frz_row 0 [(95, (Vl (Vs g95)), (Sl Kf ([r91, r94])))] (K := Kf) (xs := [r91, r94]) (by decide) rfl ⟨⟨rfl, frz_it⟩, trivial⟩ (H' := [⟨.pointer (some q12), [(Vl (.bool r78.1)), (Sl (Ki .u32) r78.2.1), (Vl (.int .i64 r78.2.2))], 40, none⟩]) frzH_refl) (ent_fn' Try.func44 isn44 rfl rfl) (laws_wholeTo_sim _ _ hr96 : Go.Sx.Fn Try.prog 44 [(Vl (.float .f64 4724276009111650304)), (Sl Kf ([r91, r94]))] [] (fun x : Unit => (Vl (.bool r96))) (fun x => [])) pu_vl rfl rfl) (wt_is' (wt_guard' rfl rfl rfl) (beq_tt h6)) fun ⟨⟩ => ?_
                refine sx_rd' (rd_un' rfl ru_not) rfl rfl (wt_is' (wt_guard' rfl rfl rfl) (beq_tt h6)) ?_
                refine sx_rd' (rd_move' rfl) rfl rfl (wt_is' (wt_guard' rfl rfl rfl) (beq_tt h6)) ?_
                refine sx_cutn' 12 (fun (v4 : Bool) => (⟨111, [], [(110, (Vl (.bool v4)))], []⟩ : St)) (fun (v4 : Bool) => laws_FnDetSignTurned_j4 k v4 = some out) ?_ ?_
                · rintro x4 hp
                  replace hp : laws_FnDetSignTurned_j4 k x4 = some out := hp
                  unfold laws_FnDetSignTurned_j4 at hp
                  refine sx_nil' ?_
                  show TX E K16 _
                  exact tx_pick' [] (sub_cons rfl sub_nil) (by decide) pick_nil (hK16 x4 hp)
                · intro K15 hK15
                  rcases br_cases hp with ⟨h7, hp⟩ | ⟨h7, hp⟩
                  · refine sx_skip' rfl rfl (wt_is' (wt_guard' rfl rfl rfl) (beq_tf h7)) ?_
                    refine sx_skip' rfl rfl (wt_is' (wt_guard' rfl rfl rfl) (beq_tf h7)) ?_
                    refine sx_skip' rfl rfl (wt_is' (wt_guard' rfl rfl rfl) (beq_tf h7)) ?_
                    refine sx_skip' rfl rfl (wt_is' (wt_guard' rfl rfl rfl) (beq_tf h7)) ?_
                    refine sx_skip' rfl rfl (wt_is' (wt_guard' rfl rfl rfl) (beq_tf h7)) ?_
                    refine sx_skip' rfl rfl (wt_is' (wt_guard' rfl rfl rfl) (beq_tf h7)) ?_
                    refine sx_skip' rfl rfl (wt_is' (wt_guard' rfl rfl rfl) (beq_tf h7)) ?_
                    refine sx_skip' rfl rfl (wt_is' (wt_guard' rfl rfl rfl) (beq_tf h7)) ?_
                    refine sx_skip' rfl rfl (wt_is' (wt_guard' rfl rfl rfl) (beq_tf h7)) ?_
                    refine sx_skip' rfl rfl (wt_is' (wt_guard' rfl rfl rfl) (beq_tf h7)) ?_
                    refine sx_rd' (rd_pick_true' rfl h7 rfl) rfl rfl (wt_is' (wt_guard' rfl rfl rfl) (beq_tt h6)) ?_
                    refine sx_rd' (rd_pick_true' rfl h6 rfl) rfl rfl (wt_none' rfl) ?_
                    refine sx_nil' ?_
                    show TX E K15 _
                    exact tx_pick' [] (sub_cons rfl sub_nil) (by decide) pick_nil (hK15 true hp)
                  · refine sx_rd' (rd_move' rfl) rfl rfl (wt_is' (wt_guard' rfl rfl rfl) (beq_ff h7)) ?_
                    refine sx_rd' (rd_move' rfl) rfl rfl (wt_is' (wt_guard' rfl rfl rfl) (beq_ff h7)) ?_
                    refine sx_rd' (rd_move' rfl) rfl rfl (wt_is' (wt_guard' rfl rfl rfl) (beq_ff h7)) ?_
                    refine sx_rd' (rd_move' rfl) rfl rfl (wt_is' (wt_guard' rfl rfl rfl) (beq_ff h7)) ?_
                    obtain ⟨r103, hr103, hp⟩ := bind_some hp
                    refine sx_ox' (ox_fop' (.inr (.inr (.inl rfl))) (fl_v rfl) (fl_v rfl) (Option.some.inj hr103) rfl rfl) (wt_is' (wt_guard' rfl rfl rfl) (beq_ff h7)) fun _ => ?_
                    refine sx_rd' (rd_move' rfl) rfl rfl (wt_is' (wt_guard' rfl rfl rfl) (beq_ff h7)) ?_
                    refine sx_rd' (rd_move' rfl) rfl rfl (wt_is' (wt_guard' rfl rfl rfl) (beq_ff h7)) ?_
                    obtain ⟨r106, hr106, hp⟩ := bind_some hp
                    refine sx_ox' (ox_fop' (.inr (.inr (.inl rfl))) (fl_v rfl) (fl_v rfl) (Option.some.inj hr106) rfl rfl) (wt_is' (wt_guard' rfl rfl rfl) (beq_ff h7)) fun _ => ?_
                    obtain ⟨u3, hu3, hp⟩ := bind_some hp
                    refine tx_slot' 103 (y := (Vl (.float .f64 r103))) rfl (imp_num (num_some hu3).2) ?_
                    obtain ⟨u4, hu4, hp⟩ := bind_some hp
                    refine tx_slot' 106 (y := (Vl (.float .f64 r106))) rfl (imp_num (num_some hu4).2) ?_
                    obtain ⟨r107, hr107, hp⟩ := bind_some hp
                    refine sx_ox' (ox_calln' (ent_fn' Try.func45 isn45 rfl rfl) (impl_DetSign_sim _ _ _ _ hr107 : Go.Sx.Fn Try.prog 45 [(Vl (.float .f64 a0)), (Vl (.float .f64 a1)), (Vl (.float .f64 r103)), (Vl (.float .f64 r106))] [] (fun x : Unit => (Vl (.int .i64 r107))) (fun x => [])) (Hn := fun x : Unit => [(Rw Kf 25 (Vs g95) ([r91, r94])), ⟨.pointer (some q12), [(Vl (.bool r78.1)), (Sl (Ki .u32) r78.2.1), (Vl (.int .i64 r78.2.2))], 40, none⟩]) (fun _ => rfl) rfl rfl) (wt_is' (wt_guard' rfl rfl rfl) (beq_ff h7)) fun ⟨⟩ => ?_
                    refine sx_rd' (rd_bin' rfl rfl eg_int ru_eql) rfl rfl (wt_is' (wt_guard' rfl rfl rfl) (beq_ff h7)) ?_
                    refine sx_rd' (rd_pick_false' rfl h7 rfl) rfl rfl (wt_is' (wt_guard' rfl rfl rfl) (beq_tt h6)) ?_
                    refine sx_rd' (rd_pick_true' rfl h6 rfl) rfl rfl (wt_none' rfl) ?_
                    refine sx_nil' ?_
                    show TX E K15 _
                    exact tx_pick' [] (sub_cons rfl sub_nil) (by decide) pick_nil (hK15 (decide (r107 = 0)) hp)
              · refine sx_skip' rfl rfl (wt_is' (wt_guard' rfl rfl rfl) (beq_ft h6)) ?_
                refine sx_skip' rfl rfl (wt_is' (wt_guard' rfl rfl rfl) (beq_ft h6)) ?_
                refine sx_skip' rfl rfl (wt_is' (wt_guard' rfl rfl rfl) (beq_ft h6)) ?_
                refine sx_skip' rfl rfl (wt_is' (wt_guard' rfl rfl rfl) (beq_ft h6)) ?_
                refine sx_skip' rfl rfl (wt_is' (wt_guard' rfl rfl rfl) (beq_ft h6)) ?_
                refine sx_skip' rfl rfl (wt_is' (wt_guard' rfl rfl rfl) (beq_ft h6)) ?_
                refine sx_skip' rfl rfl (wt_is' (wt_guard' rfl rfl rfl) (beq_ft h6)) ?_
                refine sx_skip' rfl rfl (wt_is' (wt_guard' rfl rfl rfl) (beq_ft h6)) ?_
                refine sx_skip' rfl rfl (wt_is' (wt_guard' rfl rfl rfl) (beq_ft h6)) ?_
                refine sx_skip' rfl rfl (wt_is' (wt_guard' rfl rfl rfl) (beq_ft h6)) ?_
                refine sx_skip' rfl rfl (wt_undef' rfl rfl rfl) ?_
                refine sx_skip' rfl rfl (wt_undef' rfl rfl rfl) ?_
                refine sx_skip' rfl rfl (wt_undef' rfl rfl rfl) ?_
                refine sx_skip' rfl rfl (wt_undef' rfl rfl rfl) ?_
                refine sx_skip' rfl rfl (wt_undef' rfl rfl rfl) ?_
                refine sx_skip' rfl rfl (wt_undef' rfl rfl rfl) ?_
                refine sx_skip' rfl rfl (wt_undef' rfl rfl rfl) ?_
                refine sx_skip' rfl rfl (wt_undef' rfl rfl rfl) ?_
                refine sx_skip' rfl rfl (wt_undef' rfl rfl rfl) ?_
                refine sx_skip' rfl rfl (wt_undef' rfl rfl rfl) ?_
                refine sx_skip' rfl rfl (wt_is' (wt_guard' rfl rfl rfl) (beq_ft h6)) ?_
                refine sx_rd' (rd_pick_false' rfl h6 rfl) rfl rfl (wt_none' rfl) ?_
                refine sx_nil' ?_
                show TX E K16 _
                exact tx_pick' [] (sub_cons rfl sub_nil) (by decide) pick_nil (hK16 false hp)
        · intro K10 hK10
          rcases br_cases hp with ⟨h4, hp⟩ | ⟨h4, hp⟩
          · refine sx_skip' rfl rfl (wt_is' (wt_guard' rfl rfl rfl) (beq_tf h4)) ?_
            refine sx_skip' rfl rfl (wt_is' (wt_guard' rfl rfl rfl) (beq_tf h4)) ?_
            refine sx_skip' rfl rfl (wt_is' (wt_guard' rfl rfl rfl) (beq_tf h4)) ?_
            refine sx_skip' rfl rfl (wt_is' (wt_guard' rfl rfl rfl) (beq_tf h4)) ?_
            refine sx_skip' rfl rfl (wt_is' (wt_guard' rfl rfl rfl) (beq_tf h4)) ?_
            refine sx_skip' rfl rfl (wt_is' (wt_guard' rfl rfl rfl) (beq_tf h4)) ?_
            refine sx_skip' rfl rfl (wt_is' (wt_guard' rfl rfl rfl) (beq_tf h4)) ?_
            refine sx_skip' rfl rfl (wt_is' (wt_guard' rfl rfl rfl) (beq_tf h4)) ?_
            refine sx_skip' rfl rfl (wt_is' (wt_guard' rfl rfl rfl) (beq_tf h4)) ?_
            refine sx_skip' rfl rfl (wt_is' (wt_guard' rfl rfl rfl) (beq_tf h4)) ?_
            refine sx_rd' (rd_pick_true' rfl h4 rfl) rfl rfl (wt_none' rfl) ?_
            refine sx_nil' ?_
            show TX E K10 _
            exact tx_pick' [] (sub_cons rfl (sub_cons rfl (sub_cons rfl (sub_cons rfl (sub_cons rfl (sub_cons rfl (sub_cons rfl sub_nil))))))) (by decide) pick_nil (hK10 true hp)
          · refine sx_rd' (rd_move' rfl) rfl rfl (wt_is' (wt_guard' rfl rfl rfl) (beq_ff h4)) ?_
            refine sx_rd' (rd_move' rfl) rfl rfl (wt_is' (wt_guard' rfl rfl rfl) (beq_ff h4)) ?_
            refine sx_rd' (rd_move' rfl) rfl rfl (wt_is' (wt_guard' rfl rfl rfl) (beq_ff h4)) ?_
            refine sx_rd' (rd_un' rfl ru_fneg) rfl rfl (wt_is' (wt_guard' rfl rfl rfl) (beq_ff h4)) ?_
            refine sx_rd' (rd_move' rfl) rfl rfl (wt_is' (wt_guard' rfl rfl rfl) (beq_ff h4)) ?_
            refine sx_rd' (rd_un' rfl ru_fneg) rfl rfl (wt_is' (wt_guard' rfl rfl rfl) (beq_ff h4)) ?_
            obtain ⟨r63, hr63, hp⟩ := bind_some hp
            refine sx_ox' (ox_calln' (ent_fn' Try.func45 isn45 rfl rfl) (impl_DetSign_sim _ _ _ _ hr63 : Go.Sx.Fn Try.prog 45 [(Vl (.float .f64 a0)), (Vl (.float .f64 a1)), (Vl (.float .f64 (fneg a2))), (Vl (.float .f64 (fneg a3)))] [] (fun x : Unit => (Vl (.int .i64 r63))) (fun x => [])) (Hn := fun x : Unit => []) (fun _ => rfl) rfl rfl) (wt_is' (wt_guard' rfl rfl rfl) (beq_ff h4)) fun ⟨⟩ => ?_
            refine sx_rd' (rd_move' rfl) rfl rfl (wt_is' (wt_guard' rfl rfl rfl) (beq_ff h4)) ?_
            refine sx_rd' (rd_un' rfl ru_ineg) rfl rfl (wt_is' (wt_guard' rfl rfl rfl) (beq_ff h4)) ?_
            refine sx_rd' (rd_bin' rfl rfl eg_int ru_neq) rfl rfl (wt_is' (wt_guard' rfl rfl rfl) (beq_ff h4)) ?_
            refine sx_rd' (rd_pick_false' rfl h4 rfl) rfl rfl (wt_none' rfl) ?_
            refine sx_nil' ?_
            show TX E K10 _
            exact tx_pick' [] (sub_cons rfl (sub_cons rfl (sub_cons rfl (sub_cons rfl (sub_cons rfl (sub_cons rfl (sub_cons rfl sub_nil))))))) (by decide) pick_nil (hK10 (!decide (r63 = (isub .i64 0 r25))) hp)
      · intro K9 hK9
        rcases br_cases hp with ⟨h3, hp⟩ | ⟨h3, hp⟩
        · refine sx_skip' rfl rfl (wt_is' (wt_guard' rfl rfl rfl) (beq_tf h3)) ?_
          refine sx_skip' rfl rfl (wt_is' (wt_guard' rfl rfl rfl) (beq_tf h3)) ?_
          refine sx_skip' rfl rfl (wt_is' (wt_guard' rfl rfl rfl) (beq_tf h3)) ?_
          refine sx_skip' rfl rfl (wt_is' (wt_guard' rfl rfl rfl) (beq_tf h3)) ?_
          refine sx_skip' rfl rfl (wt_is' (wt_guard' rfl rfl rfl) (beq_tf h3)) ?_
          refine sx_skip' rfl rfl (wt_is' (wt_guard' rfl rfl rfl) (beq_tf h3)) ?_
          refine sx_skip' rfl rfl (wt_is' (wt_guard' rfl rfl rfl) (beq_tf h3)) ?_
          refine sx_skip' rfl rfl (wt_is' (wt_guard' rfl rfl rfl) (beq_tf h3)) ?_
          refine sx_skip' rfl rfl (wt_is' (wt_guard' rfl rfl rfl) (beq_tf h3)) ?_
          refine sx_skip' rfl rfl (wt_is' (wt_guard' rfl rfl rfl) (beq_tf h3)) ?_
          refine sx_rd' (rd_pick_true' rfl h3 rfl) rfl rfl (wt_none' rfl) ?_
          refine sx_nil' ?_
          show TX E K9 _
          exact tx_pick' [] (sub_cons rfl (sub_cons rfl (sub_cons rfl (sub_cons rfl (sub_cons rfl (sub_cons rfl (sub_cons rfl sub_nil))))))) (by decide) pick_nil (hK9 true hp)
        · refine sx_rd' (rd_move' rfl) rfl rfl (wt_is' (wt_guard' rfl rfl rfl) (beq_ff h3)) ?_
          refine sx_rd' (rd_un' rfl ru_fneg) rfl rfl (wt_is' (wt_guard' rfl rfl rfl) (beq_ff h3)) ?_
          refine sx_rd' (rd_move' rfl) rfl rfl (wt_is' (wt_guard' rfl rfl rfl) (beq_ff h3)) ?_
          refine sx_rd' (rd_un' rfl ru_fneg) rfl rfl (wt_is' (wt_guard' rfl rfl rfl) (beq_ff h3)) ?_
          refine sx_rd' (rd_move' rfl) rfl rfl (wt_is' (wt_guard' rfl rfl rfl) (beq_ff h3)) ?_
          refine sx_rd' (rd_move' rfl) rfl rfl (wt_is' (wt_guard' rfl rfl rfl) (beq_ff h3)) ?_
          obtain ⟨r51, hr51, hp⟩ := bind_some hp
          refine sx_ox' (ox_calln' (ent_fn' Try.func45 isn45 rfl rfl) (impl_DetSign_sim _ _ _ _ hr51 : Go.Sx.Fn Try.prog 45 [(Vl (.float .f64 (fneg a0))), (Vl (.float .f64 (fneg a1))), (Vl (.float .f64 a2)), (Vl (.float .f64 a3))] [] (fun x : Unit => (Vl (.int .i64 r51))) (fun x => [])) (Hn := fun x : Unit => []) (fun _ => rfl) rfl rfl) (wt_is' (wt_guard' rfl rfl rfl) (beq_ff h3)) fun ⟨⟩ => ?_
          refine sx_rd' (rd_move' rfl) rfl rfl (wt_is' (wt_guard' rfl rfl rfl) (beq_ff h3)) ?_
          refine sx_rd' (rd_un' rfl ru_ineg) rfl rfl (wt_is' (wt_guard' rfl rfl rfl) (beq_ff h3)) ?_
          refine sx_rd' (rd_bin' rfl rfl eg_int ru_neq) rfl rfl (wt_is' (wt_guard' rfl rfl rfl) (beq_ff h3)) ?_
          refine sx_rd' (rd_pick_false' rfl h3 rfl) rfl rfl (wt_none' rfl) ?_
          refine sx_nil' ?_
          show TX E K9 _
          exact tx_pick' [] (sub_cons rfl (sub_cons rfl (sub_cons rfl (sub_cons rfl (sub_cons rfl (sub_cons rfl (sub_cons rfl sub_nil))))))) (by decide) pick_nil (hK9 (!decide (r51 = (isub .i64 0 r25))) hp)
    · intro K8 hK8
      rcases br_cases hp with ⟨h2, hp⟩ | ⟨h2, hp⟩
      · refine sx_skip' rfl rfl (wt_is' (wt_guard' rfl rfl rfl) (beq_tf h2)) ?_
        refine sx_skip' rfl rfl (wt_is' (wt_guard' rfl rfl rfl) (beq_tf h2)) ?_
        refine sx_skip' rfl rfl (wt_is' (wt_guard' rfl rfl rfl) (beq_tf h2)) ?_
        refine sx_skip' rfl rfl (wt_is' (wt_guard' rfl rfl rfl) (beq_tf h2)) ?_
        refine sx_skip' rfl rfl (wt_is' (wt_guard' rfl rfl rfl) (beq_tf h2)) ?_
        refine sx_skip' rfl rfl (wt_is' (wt_guard' rfl rfl rfl) (beq_tf h2)) ?_
        refine sx_skip' rfl rfl (wt_is' (wt_guard' rfl rfl rfl) (beq_tf h2)) ?_
        refine sx_skip' rfl rfl (wt_is' (wt_guard' rfl rfl rfl) (beq_tf h2)) ?_
        refine sx_rd' (rd_pick_true' rfl h2 rfl) rfl rfl (wt_none' rfl) ?_
        refine sx_nil' ?_
        show TX E K8 _
        exact tx_pick' [] (sub_cons rfl (sub_cons rfl (sub_cons rfl (sub_cons rfl (sub_cons rfl (sub_cons rfl (sub_cons rfl sub_nil))))))) (by decide) pick_nil (hK8 true hp)
      · refine sx_rd' (rd_move' rfl) rfl rfl (wt_is' (wt_guard' rfl rfl rfl) (beq_ff h2)) ?_
        refine sx_rd' (rd_move' rfl) rfl rfl (wt_is' (wt_guard' rfl rfl rfl) (beq_ff h2)) ?_
        refine sx_rd' (rd_move' rfl) rfl rfl (wt_is' (wt_guard' rfl rfl rfl) (beq_ff h2)) ?_
        refine sx_rd' (rd_move' rfl) rfl rfl (wt_is' (wt_guard' rfl rfl rfl) (beq_ff h2)) ?_
        obtain ⟨r39, hr39, hp⟩ := bind_some hp
        refine sx_ox' (ox_calln' (ent_fn' Try.func45 isn45 rfl rfl) (impl_DetSign_sim _ _ _ _ hr39 : Go.Sx.Fn Try.prog 45 [(Vl (.float .f64 a1)), (Vl (.float .f64 a0)), (Vl (.float .f64 a3)), (Vl (.float .f64 a2))] [] (fun x : Unit => (Vl (.int .i64 r39))) (fun x => [])) (Hn := fun x : Unit => [(Rw Kf 25 (Vs g18) ([a0, a1, a2, a3]))]) (fun _ => rfl) rfl rfl) (wt_is' (wt_guard' rfl rfl rfl) (beq_ff h2)) fun ⟨⟩ => ?_
        refine sx_rd' (rd_move' rfl) rfl rfl (wt_is' (wt_guard' rfl rfl rfl) (beq_ff h2)) ?_
        refine sx_rd' (rd_un' rfl ru_ineg) rfl rfl (wt_is' (wt_guard' rfl rfl rfl) (beq_ff h2)) ?_
        refine sx_rd' (rd_bin' rfl rfl eg_int ru_neq) rfl rfl (wt_is' (wt_guard' rfl rfl rfl) (beq_ff h2)) ?_
        refine sx_rd' (rd_pick_false' rfl h2 rfl) rfl rfl (wt_none' rfl) ?_
        refine sx_nil' ?_
        show TX E K8 _
        exact tx_pick' [] (sub_cons rfl (sub_cons rfl (sub_cons rfl (sub_cons rfl (sub_cons rfl (sub_cons rfl (sub_cons rfl sub_nil))))))) (by decide) pick_nil (hK8 (!decide (r39 = (isub .i64 0 r25))) hp)

end Go.Proofs.Ytnemkhcjmenfnaa
