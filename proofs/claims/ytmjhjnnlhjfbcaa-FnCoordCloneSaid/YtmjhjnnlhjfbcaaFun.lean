/-
  Plain functions for the Go functions that this law reaches, and that each call does what its plain function says. Printed by a program of ours.
-/
import Derived.Test.YtmjhjnnlhjfbcaaProg
import Derived.Test.YtmjhjnnlhjfbcaaSxZ
namespace Go.Proofs.Ytmjhjnnlhjfbcaa
open Go.Sx
set_option linter.unusedVariables false
set_option maxRecDepth 100000

theorem isn9 : (Try.f9.name == "runtime.NumGoroutine") = false := by kernel_rfl
theorem isn26 : (Try.f26.name == "runtime.NumGoroutine") = false := by kernel_rfl
theorem isn40 : (Try.f40.name == "runtime.NumGoroutine") = false := by kernel_rfl
theorem nil_eql58_sl : ∀ (q : Addr) (n c : Nat) (w : World), (binOp .eql 58 (.slice (some q) n c) (.slice none 0 0)).run Try.prog w = .ok (.bool false) w := fun _ _ _ _ => by kernel_rfl
theorem isn46 : (Try.f46.name == "runtime.NumGoroutine") = false := by kernel_rfl
theorem info34 : (Try.prog.info? 34).map (fun i => (i.zero, i.size, i.bytes)) = some (some (.float .f64 0), 1, 8) := by kernel_rfl
theorem isn25 : (Try.f25.name == "runtime.NumGoroutine") = false := by kernel_rfl
theorem isn8 : (Try.f8.name == "runtime.NumGoroutine") = false := by kernel_rfl
theorem flat34 : Flat Try.prog 34 := ⟨_, Try.underlying34, fun _ h => (nomatch h), fun _ _ h => (nomatch h)⟩
theorem ext24 : ∀ {args : Array Value} {v : Value}, Runs Try.prog ((Extern.MathFloatBits.float64bits) args) v → Runs Try.prog (callFunc 24 args) (.value v) := fun hr => ru_ext Try.func24 (by kernel_rfl) (by kernel_rfl) (by kernel_rfl) (by kernel_rfl) hr
theorem mixed : Try.prog.follows .mixedOrders = true := by kernel_rfl


def gogeom_deriveDeepCopy (k : Nat) (a0 : List Nat) (a1 : List Nat) : Option ((List Nat)) :=
  some (cpy a0 a1)

theorem gogeom_deriveDeepCopy_sim {k : Nat} {wa0 : Gs} (a0 : List Nat) (a1 : List Nat) {out : (List Nat)} (hp : gogeom_deriveDeepCopy k a0 a1 = some out) : Go.Sx.Fn Try.prog 46 [(Vl (Vs wa0)), (Sl Kf a1)] [(Rw Kf 34 (Vs wa0) a0)] (fun w : Unit => (Vl (.tuple #[]))) (fun w => [(Rw Kf 34 (Vs wa0) out)]) := by
  unfold gogeom_deriveDeepCopy at hp
  refine fn_of Try.func46 rfl Try.ntmps46 rfl fun E hM => ?_
  refine cx_region' ?_
  refine sx_rd' (rd_move' rfl) rfl rfl (wt_none' rfl) ?_
  refine sx_rd' (rd_move' rfl) rfl rfl (wt_none' rfl) ?_
  refine sx_ox' (ox_copy' (i := 0) rfl rfl rfl rfl rfl Try.underlying58 info34 rfl rfl (H' := [(Rw Kf 34 (Vs wa0) (cpy a0 a1))]) rfl) (wt_none' rfl) fun _ => ?_
  refine sx_nil' ?_
  replace hp := Option.some.inj hp
  subst hp
  refine tx_pick' (L' := []) (H' := [(Rw Kf 34 (Vs wa0) (cpy a0 a1))]) [0] sub_nil (by decide) (pick_cons rfl pick_nil) ?_
  exact tx_end0' Try.results46 rfl () rfl (List.Sublist.refl _)

def gogeom_deriveCloneCoord (k : Nat) (a0 : List Nat) : Option ((List Nat)) :=
  (some1 a0) >>= fun z1 =>
  (mk 8 0 (a0.length : Int) (a0.length : Int)) >>= fun r8 =>
  (gogeom_deriveDeepCopy k r8 a0) >>= fun r11 =>
  some r11

theorem gogeom_deriveCloneCoord_sim {k : Nat}  (a0 : List Nat) {out : (List Nat)} (hp : gogeom_deriveCloneCoord k a0 = some out) : Go.Sx.Fn Try.prog 40 [(Sl Kf a0)] [] (fun w : Unit => (Sl Kf out)) (fun w => []) := by
  unfold gogeom_deriveCloneCoord at hp
  refine fn_of Try.func40 rfl Try.ntmps40 rfl fun E hM => ?_
  refine cx_seq' fun K1 hK1 => ?_
  refine cx_region' ?_
  refine sx_rd' (rd_assign' rfl) rfl rfl (wt_none' rfl) ?_
  refine sx_nil' ?_
  show TX E K1 _
  refine tx_k' hK1 ?_
  refine cx_seq' fun K2 hK2 => ?_
  refine cx_seq' fun K3 hK3 => ?_
  refine cx_region' ?_
  refine sx_rd' (rd_move' rfl) rfl rfl (wt_none' rfl) ?_
  obtain ⟨z1, hz1, hp⟩ := bind_some hp
  refine sx_rd' (rd_binf' rfl rfl (bf_sl hz1 (fun _ _ _ _ => by kernel_rfl) nil_eql58_sl)) rfl rfl (wt_none' rfl) ?_
  refine sx_nil' ?_
  show TX E K3 _
  refine tx_k' hK3 ?_
  refine cx_cond_f' rfl rfl ?_
  refine cx_skip' ?_
  show TX E K2 _
  refine tx_k' hK2 ?_
  refine cx_seq' fun K4 hK4 => ?_
  refine cx_region' ?_
  refine sx_rd' (rd_move' rfl) rfl rfl (wt_none' rfl) ?_
  refine sx_rd' (rd_len' rfl Try.underlying58) rfl rfl (wt_none' rfl) ?_
  obtain ⟨r8, hr8, hp⟩ := bind_some hp
  refine sx_ox' (ox_make' (K := Kf) rfl rfl hr8 rfl Try.underlying58 info34 rfl rfl rfl rfl rfl) (wt_none' rfl) fun g8 => ?_
  refine sx_rd' (rd_assign' rfl) rfl rfl (wt_none' rfl) ?_
  refine sx_nil' ?_
  show TX E K4 _
  refine tx_k' hK4 ?_
  refine cx_seq' fun K5 hK5 => ?_
  refine cx_region' ?_
  refine sx_rd' (rd_move' rfl) rfl rfl (wt_none' rfl) ?_
  refine sx_rd' (rd_move' rfl) rfl rfl (wt_none' rfl) ?_
  obtain ⟨r11, hr11, hp⟩ := bind_some hp
  refine sx_ox' (ox_callg' (ent_fn' Try.func46 isn46 rfl rfl) (gogeom_deriveDeepCopy_sim _ _ hr11 : Go.Sx.Fn Try.prog 46 [(Vl (Vs g8)), (Sl Kf a0)] [(Rw Kf 34 (Vs g8) r8)] (fun x : Unit => (Vl (.tuple #[]))) (fun x => [(Rw Kf 34 (Vs g8) r11)])) [0] [] (by decide) (pick_cons rfl pick_nil) pick_nil (Hn := fun x : Unit => [(Rw Kf 34 (Vs g8) r11)]) (fun _ => rfl) rfl rfl) (wt_none' rfl) fun ⟨⟩ => ?_
  refine sx_nil' ?_
  show TX E K5 _
  refine tx_k' hK5 ?_
  refine cx_seq' fun K6 hK6 => ?_
  refine cx_region' ?_
  refine sx_rd' (rd_move' rfl) rfl rfl (wt_none' rfl) ?_
  refine sx_rd' (rd_assign' rfl) rfl rfl (wt_none' rfl) ?_
  refine sx_nil' ?_
  show TX E K6 _
  refine tx_k' hK6 ?_
  refine cx_retc' ?_
  replace hp := Option.some.inj hp
  subst hp
  refine tx_fz' (frz_row 0 [2, 8, 3, 9, 12] (K := Kf) (xs := r11) (by decide) rfl ⟨rfl, rfl, rfl, rfl, rfl, trivial⟩ (H' := []) frzH_refl) ?_
  refine tx_pick' (L' := [(2, (Sl Kf r11))]) (H' := []) [] (sub_cons rfl sub_nil) (by decide) pick_nil ?_
  exact tx_ret1' Try.results40 rfl () (rv_tmp' rfl) (List.Sublist.refl _)

def gogeom_Coord_Clone (k : Nat) (a0 : List Nat) : Option ((List Nat)) :=
  (gogeom_deriveCloneCoord k a0) >>= fun r4 =>
  some r4

theorem gogeom_Coord_Clone_sim {k : Nat}  (a0 : List Nat) {out : (List Nat)} (hp : gogeom_Coord_Clone k a0 = some out) : Go.Sx.Fn Try.prog 26 [(Sl Kf a0)] [] (fun w : Unit => (Sl Kf out)) (fun w => []) := by
  unfold gogeom_Coord_Clone at hp
  refine fn_of Try.func26 rfl Try.ntmps26 rfl fun E hM => ?_
  refine cx_seq' fun K1 hK1 => ?_
  refine cx_region' ?_
  refine sx_rd' (rd_assign' rfl) rfl rfl (wt_none' rfl) ?_
  refine sx_nil' ?_
  show TX E K1 _
  refine tx_k' hK1 ?_
  refine cx_seq' fun K2 hK2 => ?_
  refine cx_region' ?_
  refine sx_rd' (rd_move' rfl) rfl rfl (wt_none' rfl) ?_
  obtain ⟨r4, hr4, hp⟩ := bind_some hp
  refine sx_ox' (ox_calln' (ent_fn' Try.func40 isn40 rfl rfl) (gogeom_deriveCloneCoord_sim _ hr4 : Go.Sx.Fn Try.prog 40 [(Sl Kf a0)] [] (fun x : Unit => (Sl Kf r4)) (fun x => [])) (Hn := fun x : Unit => []) (fun _ => rfl) rfl rfl) (wt_none' rfl) fun ⟨⟩ => ?_
  refine sx_rd' (rd_assign' rfl) rfl rfl (wt_none' rfl) ?_
  refine sx_nil' ?_
  show TX E K2 _
  refine tx_k' hK2 ?_
  refine cx_retc' ?_
  replace hp := Option.some.inj hp
  subst hp
  refine tx_pick' (L' := [(2, (Sl Kf r4))]) (H' := []) [] (sub_cons rfl sub_nil) (by decide) pick_nil ?_
  exact tx_ret1' Try.results26 rfl () (rv_tmp' rfl) (List.Sublist.refl _)

def impl_floats (k : Nat) (a0 : List Nat) : Option ((List Nat)) :=
  (apd 8 [] a0) >>= fun r4 =>
  some r4

theorem impl_floats_sim {k : Nat}  (a0 : List Nat) {out : (List Nat)} (hp : impl_floats k a0 = some out) : Go.Sx.Fn Try.prog 25 [(Sl Kf a0)] [] (fun w : Unit => (Sl Kf out)) (fun w => []) := by
  unfold impl_floats at hp
  refine fn_of Try.func25 rfl Try.ntmps25 rfl fun E hM => ?_
  refine cx_seq' fun K1 hK1 => ?_
  refine cx_region' ?_
  refine sx_rd' (rd_assign' rfl) rfl rfl (wt_none' rfl) ?_
  refine sx_nil' ?_
  show TX E K1 _
  refine tx_k' hK1 ?_
  refine cx_seq' fun K2 hK2 => ?_
  refine cx_region' ?_
  refine sx_rd' (rd_move' rfl) rfl rfl (wt_none' rfl) ?_
  refine tx_nilrow' Kf 34 ?_
  obtain ⟨r4, hr4, hp⟩ := bind_some hp
  refine sx_ox' (ox_append' (K := Kf) (i := 0) (xs := []) (ys := a0) rfl rfl rfl (sr_sl' rfl Try.underlying22) hr4 Try.underlying22 info34 rfl rfl rfl (H' := []) rfl) (wt_none' rfl) fun g4 => ?_
  refine sx_rd' (rd_assign' rfl) rfl rfl (wt_none' rfl) ?_
  refine sx_nil' ?_
  show TX E K2 _
  refine tx_k' hK2 ?_
  refine cx_retc' ?_
  replace hp := Option.some.inj hp
  subst hp
  refine tx_fz' (frz_row 0 [2, 4] (K := Kf) (xs := r4) (by decide) rfl ⟨rfl, rfl, trivial⟩ (H' := []) frzH_refl) ?_
  refine tx_pick' (L' := [(2, (Sl Kf r4))]) (H' := []) [] (sub_cons rfl sub_nil) (by decide) pick_nil ?_
  exact tx_ret1' Try.results25 rfl () (rv_tmp' rfl) (List.Sublist.refl _)

def impl_CoordClone (k : Nat) (a0 : List Nat) : Option ((List Nat)) :=
  (gogeom_Coord_Clone k a0) >>= fun r4 =>
  (impl_floats k r4) >>= fun r5 =>
  some r5

theorem impl_CoordClone_sim {k : Nat}  (a0 : List Nat) {out : (List Nat)} (hp : impl_CoordClone k a0 = some out) : Go.Sx.Fn Try.prog 9 [(Sl Kf a0)] [] (fun w : Unit => (Sl Kf out)) (fun w => []) := by
  unfold impl_CoordClone at hp
  refine fn_of Try.func9 rfl Try.ntmps9 rfl fun E hM => ?_
  refine cx_seq' fun K1 hK1 => ?_
  refine cx_region' ?_
  refine sx_rd' (rd_assign' rfl) rfl rfl (wt_none' rfl) ?_
  refine sx_nil' ?_
  show TX E K1 _
  refine tx_k' hK1 ?_
  refine cx_seq' fun K2 hK2 => ?_
  refine cx_region' ?_
  refine sx_rd' (rd_move' rfl) rfl rfl (wt_none' rfl) ?_
  obtain ⟨r4, hr4, hp⟩ := bind_some hp
  refine sx_ox' (ox_calln' (ent_fn' Try.func26 isn26 rfl rfl) (gogeom_Coord_Clone_sim _ hr4 : Go.Sx.Fn Try.prog 26 [(Sl Kf a0)] [] (fun x : Unit => (Sl Kf r4)) (fun x => [])) (Hn := fun x : Unit => []) (fun _ => rfl) rfl rfl) (wt_none' rfl) fun ⟨⟩ => ?_
  obtain ⟨r5, hr5, hp⟩ := bind_some hp
  refine sx_ox' (ox_calln' (ent_fn' Try.func25 isn25 rfl rfl) (impl_floats_sim _ hr5 : Go.Sx.Fn Try.prog 25 [(Sl Kf r4)] [] (fun x : Unit => (Sl Kf r5)) (fun x => [])) (Hn := fun x : Unit => []) (fun _ => rfl) rfl rfl) (wt_none' rfl) fun ⟨⟩ => ?_
  refine sx_rd' (rd_assign' rfl) rfl rfl (wt_none' rfl) ?_
  refine sx_nil' ?_
  show TX E K2 _
  refine tx_k' hK2 ?_
  refine cx_retc' ?_
  replace hp := Option.some.inj hp
  subst hp
  refine tx_pick' (L' := [(2, (Sl Kf r5))]) (H' := []) [] (sub_cons rfl sub_nil) (by decide) pick_nil ?_
  exact tx_ret1' Try.results9 rfl () (rv_tmp' rfl) (List.Sublist.refl _)

def spec_SameFloats_l1s (a0 : List Nat) (a1 : List Nat) (k : Nat) (rec1 : Int → Option (Unit ⊕ Unit)) (x1 : Int) : Option (Unit ⊕ Unit) :=
  br (decide (x1 < (a0.length : Int)))
    ((idx a0 x1) >>= fun r17 =>
    (idx a1 x1) >>= fun r23 =>
    br (!decide ((fbits r17) = (fbits r23)))
      (some (.inl ()))
      (rec1 (iadd .i64 x1 1)))
    (some (.inr ()))
def spec_SameFloats_l1 (a0 : List Nat) (a1 : List Nat) : Nat → Int → Option (Unit ⊕ Unit)
  | 0, _ => none
  | k + 1, v => spec_SameFloats_l1s a0 a1 k (spec_SameFloats_l1 a0 a1 k) v
def spec_SameFloats (k : Nat) (a0 : List Nat) (a1 : List Nat) : Option (Bool) :=
  br (!decide ((a0.length : Int) = (a1.length : Int)))
    (some false)
    ((spec_SameFloats_l1 a0 a1 k 0) >>= fun y1 => match y1 with
      | (.inl v2) =>
        (some false)
      | (.inr v3) =>
        (some true))

theorem spec_SameFloats_sim {k : Nat}  (a0 : List Nat) (a1 : List Nat) {out : Bool} (hp : spec_SameFloats k a0 a1 = some out) : Go.Sx.Fn Try.prog 8 [(Sl Kf a0), (Sl Kf a1)] [] (fun w : Unit => (Vl (.bool out))) (fun w => []) := by
  unfold spec_SameFloats at hp
  refine fn_of Try.func8 rfl Try.ntmps8 rfl fun E hM => ?_
  refine cx_seq' fun K1 hK1 => ?_
  refine cx_region' ?_
  refine sx_rd' (rd_assign' rfl) rfl rfl (wt_none' rfl) ?_
  refine sx_nil' ?_
  show TX E K1 _
  refine tx_k' hK1 ?_
  refine cx_seq' fun K2 hK2 => ?_
  refine cx_seq' fun K3 hK3 => ?_
  refine cx_region' ?_
  refine sx_rd' (rd_move' rfl) rfl rfl (wt_none' rfl) ?_
  refine sx_rd' (rd_len' rfl Try.underlying22) rfl rfl (wt_none' rfl) ?_
  refine sx_rd' (rd_move' rfl) rfl rfl (wt_none' rfl) ?_
  refine sx_rd' (rd_len' rfl Try.underlying22) rfl rfl (wt_none' rfl) ?_
  refine sx_rd' (rd_bin' rfl rfl eg_int ru_neq) rfl rfl (wt_none' rfl) ?_
  refine sx_nil' ?_
  show TX E K3 _
  refine tx_k' hK3 ?_
  refine cx_cond' rfl (fun h1 => ?_) (fun h1 => ?_)
  · replace hp := (br_t h1).symm.trans hp
    refine cx_seq' fun K4 hK4 => ?_
    refine cx_region' ?_
    refine sx_rd' (rd_assign' rfl) rfl rfl (wt_none' rfl) ?_
    refine sx_nil' ?_
    show TX E K4 _
    refine tx_k' hK4 ?_
    refine cx_retc' ?_
    replace hp := Option.some.inj hp
    subst hp
    refine tx_pick' (L' := [(4, (Vl (.bool false)))]) (H' := []) [] (sub_cons rfl sub_nil) (by decide) pick_nil ?_
    exact tx_ret1' Try.results8 rfl () (rv_tmp' rfl) (List.Sublist.refl _)
  · replace hp := (br_f h1).symm.trans hp
    refine cx_skip' ?_
    show TX E K2 _
    refine tx_k' hK2 ?_
    refine cx_seq' fun K5 hK5 => ?_
    refine cx_seq' fun K6 hK6 => ?_
    refine cx_region' ?_
    refine sx_rd' (rd_move' rfl) rfl rfl (wt_none' rfl) ?_
    refine sx_rd' (rd_len' rfl Try.underlying22) rfl rfl (wt_none' rfl) ?_
    refine sx_rd' (rd_move' rfl) rfl rfl (wt_none' rfl) ?_
    refine sx_nil' ?_
    show TX E K6 _
    refine tx_k' hK6 ?_
    refine cx_block' ?_
    obtain ⟨y1, hy1, hp⟩ := bind_some hp
    refine cx_loopg' (F := spec_SameFloats_l1 a0 a1) (G := fun k R v => spec_SameFloats_l1s a0 a1 k R v) (x := 0) (gh := ()) (fun (v1 : Int) (w1 : Unit) => (⟨28, [], [(1, (Sl Kf a1)), (12, (Sl Kf a0)), (13, (Vl (.int .i64 (a0.length : Int)))), (14, (Vl (.int .i64 v1)))], []⟩ : St)) (fun (y : Unit ⊕ Unit) => match y with | (.inl v2) => Zg E Exit.ret (fun (w2 : Unit) => (⟨28, [], [(4, (Vl (.bool false)))], []⟩ : St)) | (.inr v3) => Zg E (Exit.exit 0) (fun (w3 : Unit) => (⟨28, [], [], []⟩ : St))) (fun _ => rfl) (fun _ _ => rfl) ?_ hy1 (tx_to' rfl [] (sub_cons rfl (sub_cons rfl (sub_cons rfl (sub_cons rfl sub_nil)))) (by decide) pick_nil) ?_
    · clear hp hy1
      clear y1
      intro k rec1 KY1 ih1
      rintro x1 ⟨⟩ y1 hp
      replace hp : spec_SameFloats_l1s a0 a1 k rec1 x1 = some y1 := hp
      unfold spec_SameFloats_l1s at hp
      refine cx_seq' fun K7 hK7 => ?_
      refine cx_region' ?_
      refine sx_rd' (rd_bin' rfl rfl eg_int ru_lss) rfl rfl (wt_none' rfl) ?_
      refine sx_nil' ?_
      show TX E K7 _
      refine tx_k' hK7 ?_
      refine cx_seq' fun K8 hK8 => ?_
      refine cx_cond' rfl (fun h3 => ?_) (fun h3 => ?_)
      · replace hp := (br_t h3).symm.trans hp
        refine cx_skip' ?_
        show TX E K8 _
        refine tx_k' hK8 ?_
        refine cx_seq' fun K9 hK9 => ?_
        refine cx_block' ?_
        refine cx_seq' fun K10 hK10 => ?_
        refine cx_region' ?_
        refine sx_rd' (rd_move' rfl) rfl rfl (wt_none' rfl) ?_
        obtain ⟨r17, hr17, hp⟩ := bind_some hp
        refine sx_rd' (rd_at' (K := Kf) rfl rfl hr17 Try.underlying22 info34) rfl rfl (wt_none' rfl) ?_
        refine sx_rd' (rd_load_pt' rfl rfl flat34) rfl rfl (wt_none' rfl) ?_
        refine sx_rd' (rd_assign' rfl) rfl rfl (wt_none' rfl) ?_
        refine sx_rd' (rd_assign' rfl) rfl rfl (wt_none' rfl) ?_
        refine sx_nil' ?_
        show TX E K10 _
        refine tx_k' hK10 ?_
        refine cx_seq' fun K11 hK11 => ?_
        refine cx_draw' mixed (by kernel_rfl) ?_
        refine qx_rd' (rd_move' rfl) rfl rfl (wt_none' rfl) ?_
        refine qx_rd' (rd_ext' (us := [.float .f64 r17]) rfl (ext24 ex_bits)) rfl rfl (wt_none' rfl) ?_
        refine qx_rd' (rd_move' rfl) rfl rfl (wt_none' rfl) ?_
        refine qx_rd' (rd_move' rfl) rfl rfl (wt_none' rfl) ?_
        obtain ⟨r23, hr23, hp⟩ := bind_some hp
        refine qx_rd' (rd_at' (K := Kf) rfl rfl hr23 Try.underlying22 info34) rfl rfl (wt_none' rfl) ?_
        refine qx_rd' (rd_load_pt' rfl rfl flat34) rfl rfl (wt_none' rfl) ?_
        refine qx_rd' (rd_ext' (us := [.float .f64 r23]) rfl (ext24 ex_bits)) rfl rfl (wt_none' rfl) ?_
        refine qx_rd' (rd_bin' rfl rfl eg_int ru_neq) rfl rfl (wt_none' rfl) ?_
        refine qx_nil' ?_
        show TX E K11 _
        refine tx_k' hK11 ?_
        refine cx_cond' rfl (fun h4 => ?_) (fun h4 => ?_)
        · replace hp := (br_t h4).symm.trans hp
          refine cx_seq' fun K12 hK12 => ?_
          refine cx_region' ?_
          refine sx_rd' (rd_assign' rfl) rfl rfl (wt_none' rfl) ?_
          refine sx_nil' ?_
          show TX E K12 _
          refine tx_k' hK12 ?_
          refine cx_retc' ?_
          replace hp := Option.some.inj hp
          subst hp
          show TX E (Zg E Exit.ret _ Exit.ret) _
          exact tx_zend' () rfl [] (sub_cons rfl sub_nil) (by decide) pick_nil
        · replace hp := (br_f h4).symm.trans hp
          refine cx_skip' ?_
          show TX E K9 _
          refine tx_k' hK9 ?_
          refine cx_region' ?_
          refine sx_rd' (rd_bin' rfl rfl eg_int ru_add) rfl rfl (wt_none' rfl) ?_
          refine sx_rd' (rd_move' rfl) rfl rfl (wt_none' rfl) ?_
          refine sx_nil' ?_
          show TX E (KY1 _) _
          exact tx_pick' [] (sub_cons rfl (sub_cons rfl (sub_cons rfl (sub_cons rfl sub_nil)))) (by decide) pick_nil (ih1 (iadd .i64 x1 1) () _ hp)
      · replace hp := (br_f h3).symm.trans hp
        refine cx_exit' ?_
        replace hp := Option.some.inj hp
        subst hp
        show TX E (Zg E (Exit.exit 0) _ (Exit.exit 0)) _
        exact tx_zend' () rfl [] sub_nil (by decide) pick_nil
    · rcases y1 with v2 | v3
      · dsimp only at hp
        refine zg_out fun w2 => ?_
        replace hp := Option.some.inj hp
        subst hp
        refine tx_pick' (L' := [(4, (Vl (.bool false)))]) (H' := []) [] (sub_cons rfl sub_nil) (by decide) pick_nil ?_
        exact tx_ret1' Try.results8 rfl () (rv_tmp' rfl) (List.Sublist.refl _)
      · dsimp only at hp
        refine zg_out fun w3 => ?_
        show TX E K5 _
        refine tx_k' hK5 ?_
        refine cx_seq' fun K13 hK13 => ?_
        refine cx_region' ?_
        refine sx_rd' (rd_assign' rfl) rfl rfl (wt_none' rfl) ?_
        refine sx_nil' ?_
        show TX E K13 _
        refine tx_k' hK13 ?_
        refine cx_retc' ?_
        replace hp := Option.some.inj hp
        subst hp
        refine tx_pick' (L' := [(4, (Vl (.bool true)))]) (H' := []) [] (sub_cons rfl sub_nil) (by decide) pick_nil ?_
        exact tx_ret1' Try.results8 rfl () (rv_tmp' rfl) (List.Sublist.refl _)

def laws_FnCoordClone_j2 (k : Nat) (x2 : Bool) : Option (Bool) :=
  some x2
def laws_FnCoordClone_j1 (k : Nat) (a0 : List Nat) (x1 : Bool) : Option (Bool) :=
  br x1
    (laws_FnCoordClone_j2 k true)
    ((impl_CoordClone k a0) >>= fun r16 =>
    (spec_SameFloats k r16 a0) >>= fun r18 =>
    laws_FnCoordClone_j2 k r18)
def laws_FnCoordClone (k : Nat) (a0 : List Nat) : Option (Bool) :=
  br (decide (2147483647 < (a0.length : Int)))
    (some true)
    (br (decide ((a0.length : Int) = 0))
      (laws_FnCoordClone_j1 k a0 true)
      (laws_FnCoordClone_j1 k a0 (decide (100 < (a0.length : Int)))))

theorem laws_FnCoordClone_sim {k : Nat}  (a0 : List Nat) {out : Bool} (hp : laws_FnCoordClone k a0 = some out) : Go.Sx.Fn Try.prog 3 [(Sl Kf a0)] [] (fun w : Unit => (Vl (.bool out))) (fun w => []) := by
  unfold laws_FnCoordClone at hp
  refine fn_of Try.func3 rfl Try.ntmps3 rfl fun E hM => ?_
  refine cx_seq' fun K1 hK1 => ?_
  refine cx_region' ?_
  refine sx_rd' (rd_assign' rfl) rfl rfl (wt_none' rfl) ?_
  refine sx_nil' ?_
  show TX E K1 _
  refine tx_k' hK1 ?_
  refine cx_seq' fun K2 hK2 => ?_
  refine cx_seq' fun K3 hK3 => ?_
  refine cx_region' ?_
  refine sx_rd' (rd_move' rfl) rfl rfl (wt_none' rfl) ?_
  refine sx_rd' (rd_len' rfl Try.underlying22) rfl rfl (wt_none' rfl) ?_
  refine sx_rd' (rd_bin' rfl rfl eg_int ru_gtr) rfl rfl (wt_none' rfl) ?_
  refine sx_nil' ?_
  show TX E K3 _
  refine tx_k' hK3 ?_
  refine cx_cond' rfl (fun h1 => ?_) (fun h1 => ?_)
  · replace hp := (br_t h1).symm.trans hp
    refine cx_seq' fun K4 hK4 => ?_
    refine cx_region' ?_
    refine sx_rd' (rd_assign' rfl) rfl rfl (wt_none' rfl) ?_
    refine sx_nil' ?_
    show TX E K4 _
    refine tx_k' hK4 ?_
    refine cx_retc' ?_
    replace hp := Option.some.inj hp
    subst hp
    refine tx_pick' (L' := [(2, (Vl (.bool true)))]) (H' := []) [] (sub_cons rfl sub_nil) (by decide) pick_nil ?_
    exact tx_ret1' Try.results3 rfl () (rv_tmp' rfl) (List.Sublist.refl _)
  · replace hp := (br_f h1).symm.trans hp
    refine cx_skip' ?_
    show TX E K2 _
    refine tx_k' hK2 ?_
    refine cx_seq' fun K5 hK5 => ?_
    refine cx_region' ?_
    refine sx_rd' (rd_move' rfl) rfl rfl (wt_none' rfl) ?_
    refine sx_rd' (rd_len' rfl Try.underlying22) rfl rfl (wt_none' rfl) ?_
    refine sx_rd' (rd_bin' rfl rfl eg_int ru_eql) rfl rfl (wt_none' rfl) ?_
    refine sx_rd' (rd_move' rfl) rfl rfl (wt_none' rfl) ?_
    refine sx_cutn' 4 (fun (v1 : Bool) => (⟨20, [], [(0, (Sl Kf a0)), (13, (Vl (.bool v1)))], []⟩ : St)) (fun (v1 : Bool) => laws_FnCoordClone_j1 k a0 v1 = some out) ?_ ?_
    · rintro x1 hp
      replace hp : laws_FnCoordClone_j1 k a0 x1 = some out := hp
      unfold laws_FnCoordClone_j1 at hp
      refine sx_rd' (rd_move' rfl) rfl rfl (wt_none' rfl) ?_
      refine sx_cutn' 5 (fun (v2 : Bool) => (⟨20, [], [(19, (Vl (.bool v2)))], []⟩ : St)) (fun (v2 : Bool) => laws_FnCoordClone_j2 k v2 = some out) ?_ ?_
      · rintro x2 hp
        replace hp : laws_FnCoordClone_j2 k x2 = some out := hp
        unfold laws_FnCoordClone_j2 at hp
        refine sx_rd' (rd_assign' rfl) rfl rfl (wt_none' rfl) ?_
        refine sx_nil' ?_
        show TX E K5 _
        refine tx_k' hK5 ?_
        refine cx_retc' ?_
        replace hp := Option.some.inj hp
        subst hp
        refine tx_pick' (L' := [(2, (Vl (.bool x2)))]) (H' := []) [] (sub_cons rfl sub_nil) (by decide) pick_nil ?_
        exact tx_ret1' Try.results3 rfl () (rv_tmp' rfl) (List.Sublist.refl _)
      · intro K7 hK7
        rcases br_cases hp with ⟨h3, hp⟩ | ⟨h3, hp⟩
        · refine sx_skip' rfl rfl (wt_is' (wt_guard' rfl rfl rfl) (beq_tf h3)) ?_
          refine sx_skip' rfl rfl (wt_is' (wt_guard' rfl rfl rfl) (beq_tf h3)) ?_
          refine sx_skip' rfl rfl (wt_is' (wt_guard' rfl rfl rfl) (beq_tf h3)) ?_
          refine sx_skip' rfl rfl (wt_is' (wt_guard' rfl rfl rfl) (beq_tf h3)) ?_
          refine sx_rd' (rd_pick_true' rfl h3 rfl) rfl rfl (wt_none' rfl) ?_
          refine sx_nil' ?_
          show TX E K7 _
          exact tx_pick' [] (sub_cons rfl sub_nil) (by decide) pick_nil (hK7 true hp)
        · refine sx_rd' (rd_move' rfl) rfl rfl (wt_is' (wt_guard' rfl rfl rfl) (beq_ff h3)) ?_
          obtain ⟨r16, hr16, hp⟩ := bind_some hp
          refine sx_ox' (ox_calln' (ent_fn' Try.func9 isn9 rfl rfl) (impl_CoordClone_sim _ hr16 : Go.Sx.Fn Try.prog 9 [(Sl Kf a0)] [] (fun x : Unit => (Sl Kf r16)) (fun x => [])) (Hn := fun x : Unit => []) (fun _ => rfl) rfl rfl) (wt_is' (wt_guard' rfl rfl rfl) (beq_ff h3)) fun ⟨⟩ => ?_
          refine sx_rd' (rd_move' rfl) rfl rfl (wt_is' (wt_guard' rfl rfl rfl) (beq_ff h3)) ?_
          obtain ⟨r18, hr18, hp⟩ := bind_some hp
          refine sx_ox' (ox_calln' (ent_fn' Try.func8 isn8 rfl rfl) (spec_SameFloats_sim _ _ hr18 : Go.Sx.Fn Try.prog 8 [(Sl Kf r16), (Sl Kf a0)] [] (fun x : Unit => (Vl (.bool r18))) (fun x => [])) (Hn := fun x : Unit => []) (fun _ => rfl) rfl rfl) (wt_is' (wt_guard' rfl rfl rfl) (beq_ff h3)) fun ⟨⟩ => ?_
          refine sx_rd' (rd_pick_false' rfl h3 rfl) rfl rfl (wt_none' rfl) ?_
          refine sx_nil' ?_
          show TX E K7 _
          exact tx_pick' [] (sub_cons rfl sub_nil) (by decide) pick_nil (hK7 r18 hp)
    · intro K6 hK6
      rcases br_cases hp with ⟨h2, hp⟩ | ⟨h2, hp⟩
      · refine sx_skip' rfl rfl (wt_is' (wt_guard' rfl rfl rfl) (beq_tf h2)) ?_
        refine sx_skip' rfl rfl (wt_is' (wt_guard' rfl rfl rfl) (beq_tf h2)) ?_
        refine sx_skip' rfl rfl (wt_is' (wt_guard' rfl rfl rfl) (beq_tf h2)) ?_
        refine sx_rd' (rd_pick_true' rfl h2 rfl) rfl rfl (wt_none' rfl) ?_
        refine sx_nil' ?_
        show TX E K6 _
        exact tx_pick' [] (sub_cons rfl (sub_cons rfl sub_nil)) (by decide) pick_nil (hK6 true hp)
      · refine sx_rd' (rd_move' rfl) rfl rfl (wt_is' (wt_guard' rfl rfl rfl) (beq_ff h2)) ?_
        refine sx_rd' (rd_len' rfl Try.underlying22) rfl rfl (wt_is' (wt_guard' rfl rfl rfl) (beq_ff h2)) ?_
        refine sx_rd' (rd_bin' rfl rfl eg_int ru_gtr) rfl rfl (wt_is' (wt_guard' rfl rfl rfl) (beq_ff h2)) ?_
        refine sx_rd' (rd_pick_false' rfl h2 rfl) rfl rfl (wt_none' rfl) ?_
        refine sx_nil' ?_
        show TX E K6 _
        exact tx_pick' [] (sub_cons rfl (sub_cons rfl sub_nil)) (by decide) pick_nil (hK6 (decide (100 < (a0.length : Int))) hp)

end Go.Proofs.Ytmjhjnnlhjfbcaa
