/-
  Plain functions for the Go functions that this law reaches, and that each call does what its plain function says. Printed by a program of ours.
-/
import Derived.Test.YtlipjaacncpaoaaProg
import Derived.Test.YtlipjaacncpaoaaSxX
namespace Go.Proofs.Ytlipjaacncpaoaa
open Go.Sx
set_option linter.unusedVariables false
set_option maxRecDepth 100000

theorem isn14 : (Try.f14.name == "runtime.NumGoroutine") = false := by kernel_rfl
theorem info39 : (Try.prog.info? 39).map (fun i => (i.zero, i.size, i.bytes)) = some (some (.slice none 0 0), 1, 24) := by kernel_rfl
theorem flat39 : Flat Try.prog 39 := ⟨_, Try.underlying39, fun _ h => (nomatch h), fun _ _ h => (nomatch h)⟩
theorem isn54 : (Try.f54.name == "runtime.NumGoroutine") = false := by kernel_rfl
theorem info22 : (Try.prog.info? 22).map (fun i => (i.zero, i.size, i.bytes)) = some (some (.slice none 0 0), 1, 24) := by kernel_rfl
theorem flat22 : Flat Try.prog 22 := ⟨_, Try.underlying22, fun _ h => (nomatch h), fun _ _ h => (nomatch h)⟩
theorem isn15 : (Try.f15.name == "runtime.NumGoroutine") = false := by kernel_rfl
theorem isn16 : (Try.f16.name == "runtime.NumGoroutine") = false := by kernel_rfl
theorem info29 : (Try.prog.info? 29).map (fun i => (i.zero, i.size, i.bytes)) = some (some (.slice none 0 0), 1, 24) := by kernel_rfl
theorem flat29 : Flat Try.prog 29 := ⟨_, Try.underlying29, fun _ h => (nomatch h), fun _ _ h => (nomatch h)⟩
theorem isn55 : (Try.f55.name == "runtime.NumGoroutine") = false := by kernel_rfl
theorem isn18 : (Try.f18.name == "runtime.NumGoroutine") = false := by kernel_rfl
theorem isn17 : (Try.f17.name == "runtime.NumGoroutine") = false := by kernel_rfl
theorem isn56 : (Try.f56.name == "runtime.NumGoroutine") = false := by kernel_rfl
theorem isn11 : (Try.f11.name == "runtime.NumGoroutine") = false := by kernel_rfl
theorem nil_eql22_sl : ∀ (q : Addr) (n c : Nat) (w : World), (binOp .eql 22 (.slice (some q) n c) (.slice none 0 0)).run Try.prog w = .ok (.bool false) w := fun _ _ _ _ => by kernel_rfl
theorem info3 : (Try.prog.info? 3).map (fun i => (i.zero, i.size, i.bytes)) = some (some (.int .i64 0), 1, 8) := by kernel_rfl
theorem info38 : (Try.prog.info? 38).map (fun i => (i.zero, i.size, i.bytes)) = some (some (.float .f64 0), 1, 8) := by kernel_rfl
theorem isn19 : (Try.f19.name == "runtime.NumGoroutine") = false := by kernel_rfl
theorem isn59 : (Try.f59.name == "runtime.NumGoroutine") = false := by kernel_rfl
theorem isn99 : (Try.f99.name == "runtime.NumGoroutine") = false := by kernel_rfl
theorem isn50 : (Try.f50.name == "runtime.NumGoroutine") = false := by kernel_rfl
theorem info132 : (Try.prog.info? 132).map (fun i => (i.zero, i.size, i.bytes)) = some (some (.slice none 0 0), 1, 24) := by kernel_rfl
theorem info152 : (Try.prog.info? 152).map (fun i => (i.zero, i.size, i.bytes)) = some (some (.slice none 0 0), 1, 24) := by kernel_rfl
theorem isn58 : (Try.f58.name == "runtime.NumGoroutine") = false := by kernel_rfl
theorem isn98 : (Try.f98.name == "runtime.NumGoroutine") = false := by kernel_rfl
theorem flat152 : Flat Try.prog 152 := ⟨_, Try.underlying152, fun _ h => (nomatch h), fun _ _ h => (nomatch h)⟩
theorem isn134 : (Try.f134.name == "runtime.NumGoroutine") = false := by kernel_rfl
theorem flat132 : Flat Try.prog 132 := ⟨_, Try.underlying132, fun _ h => (nomatch h), fun _ _ h => (nomatch h)⟩
theorem isn155 : (Try.f155.name == "runtime.NumGoroutine") = false := by kernel_rfl
theorem places194 : placesOf Try.prog [{ name := "Got", type := 3, offset := 0, embedded := false, tag := "", pkgPath := "", byteOffset := 0 }, { name := "Want", type := 3, offset := 1, embedded := false, tag := "", pkgPath := "", byteOffset := 8 }] = [(0, 1), (1, 1)] := by kernel_rfl
theorem has194 : ∀ f ∈ ([{ name := "Got", type := 3, offset := 0, embedded := false, tag := "", pkgPath := "", byteOffset := 0 }, { name := "Want", type := 3, offset := 1, embedded := false, tag := "", pkgPath := "", byteOffset := 8 }] : List Field), (Try.prog.info? f.type).isSome = true := fun f hf => all_of (p := fun f => (Try.prog.info? f.type).isSome) (by kernel_rfl) f hf
theorem info194 : (Try.prog.info? 194).map (fun i => (i.zero, i.size, i.bytes)) = some (some (.agg #[.int .i64 0, .int .i64 0]), 2, 16) := by kernel_rfl
theorem nil_neq113_if194 : ∀ (v : Value) (w : World), (binOp .neq 113 (.iface 194 v) .nilIface).run Try.prog w = .ok (.bool true) w := fun _ _ => by kernel_rfl
theorem nil_neq113_nilif : ∀ (w : World), (binOp .neq 113 .nilIface .nilIface).run Try.prog w = .ok (.bool false) w := fun _ => by kernel_rfl
theorem mixed : Try.prog.follows .mixedOrders = true := by kernel_rfl
theorem isn60 : (Try.f60.name == "runtime.NumGoroutine") = false := by kernel_rfl
theorem nil_eql113_if194 : ∀ (v : Value) (w : World), (binOp .eql 113 (.iface 194 v) .nilIface).run Try.prog w = .ok (.bool false) w := fun _ _ => by kernel_rfl
theorem info4 : (Try.prog.info? 4).map (fun i => (i.zero, i.size, i.bytes)) = some (some (.bool false), 1, 1) := by kernel_rfl
theorem info34 : (Try.prog.info? 34).map (fun i => (i.zero, i.size, i.bytes)) = some (some (.slice none 0 0), 1, 24) := by kernel_rfl
theorem idle57 : Idle Try.prog 57 3 := fun vs w hv => by
  obtain ⟨v0, v1, v2, rfl⟩ : ∃ v0 v1 v2, vs = [v0, v1, v2] := by
    obtain _ | ⟨v0, vs⟩ := vs
    · simp at hv
    obtain _ | ⟨v1, vs⟩ := vs
    · simp at hv
    obtain _ | ⟨v2, vs⟩ := vs
    · simp at hv
    obtain _ | ⟨u, vs⟩ := vs
    · exact ⟨v0, v1, v2, rfl⟩
    · simp at hv
  refine callsD_of_wpS Try.func57 rfl fun c₀ cs hu => ?_
  apply wpS_seq
  apply wpS_region
  simp [wpOpsS, go_sem, recoverD, hu, Try.ntmps57, Exit.thenS]
  refine wpS_cond (t := false) (by simp [Act.eval, Array.replicate]) ?_
  simp only [Bool.false_eq_true, if_false]
  refine wpS_of_wp (wp_skip ?_)
  cases c₀
  simp_all [bodyPostS, results, Try.results57]
theorem isn57 : (Try.f57.name == "runtime.NumGoroutine") = false := by kernel_rfl
theorem nil_eql113_nilif : ∀ (w : World), (binOp .eql 113 .nilIface .nilIface).run Try.prog w = .ok (.bool true) w := fun _ => by kernel_rfl
theorem flat34 : Flat Try.prog 34 := ⟨_, Try.underlying34, fun _ h => (nomatch h), fun _ _ h => (nomatch h)⟩
theorem flat4 : Flat Try.prog 4 := ⟨_, Try.underlying4, fun _ h => (nomatch h), fun _ _ h => (nomatch h)⟩
theorem isn13 : (Try.f13.name == "runtime.NumGoroutine") = false := by kernel_rfl
theorem flat38 : Flat Try.prog 38 := ⟨_, Try.underlying38, fun _ h => (nomatch h), fun _ _ h => (nomatch h)⟩
theorem ext53 : ∀ {args : Array Value} {v : Value}, Runs Try.prog ((Extern.MathFloatBits.float64bits) args) v → Runs Try.prog (callFunc 53 args) (.value v) := fun hr => ru_ext Try.func53 (by kernel_rfl) (by kernel_rfl) (by kernel_rfl) (by kernel_rfl) hr
theorem isn20 : (Try.f20.name == "runtime.NumGoroutine") = false := by kernel_rfl
theorem flat3 : Flat Try.prog 3 := ⟨_, Try.underlying3, fun _ h => (nomatch h), fun _ _ h => (nomatch h)⟩


def laws_zzFits4_l1s (a0 : List (List Nat)) (k : Nat) (rec1 : Int → Option (Unit ⊕ Unit)) (x1 : Int) : Option (Unit ⊕ Unit) :=
 br (decide (x1 < (a0.length : Int)))
  ((idx a0 x1) >>= fun r12 =>
  br (decide (2147483647 < (r12.length : Int)))
   (some (.inl ()))
   (rec1 (iadd .i64 x1 1)))
  (some (.inr ()))
def laws_zzFits4_l1 (a0 : List (List Nat)) : Nat → Int → Option (Unit ⊕ Unit)
 | 0, _ => none
 | k + 1, v => laws_zzFits4_l1s a0 k (laws_zzFits4_l1 a0 k) v
def laws_zzFits4 (k : Nat) (a0 : List (List Nat)) : Option (Bool) :=
 br (decide (2147483647 < (a0.length : Int)))
  (some false)
  ((laws_zzFits4_l1 a0 k 0) >>= fun y1 => match y1 with
   | (.inl v2) =>
    (some false)
   | (.inr v3) =>
    (some true))

theorem laws_zzFits4_sim {k : Nat}  (a0 : List (List Nat)) {out : Bool} (hp : laws_zzFits4 k a0 = some out) : Sx.Fn Try.prog 54 [(Sl (Kl Kf) a0)] [] (fun w : Unit => (Vb out)) (fun w => []) := by
 unfold laws_zzFits4 at hp
 refine fn_of Try.func54 rfl Try.ntmps54 rfl fun E hM => ?_
 refine cr fun K1 hK1 => ?_
 refine s0 (rd_assign' rfl) ?_
 refine nk hK1 ?_
 refine cx_seq' fun K2 hK2 => ?_
 refine cr fun K3 hK3 => ?_
 refine s0 (rd_move' rfl) ?_
 refine s0 (rd_len' rfl Try.underlying39) ?_
 refine s0 (rd_bin' rfl rfl eg_int ru_gtr) ?_
 refine nk hK3 ?_
 refine cx_cond' rfl (fun h1 => ?_) (fun h1 => ?_)
 ·replace hp := (br_t h1).symm.trans hp
  refine cr fun K4 hK4 => ?_
  refine s0 (rd_assign' rfl) ?_
  refine nk hK4 ?_
  refine cx_retc' ?_
  replace hp := Option.some.inj hp
  subst hp
  refine tx_pick' (L' := [(2, (Vb false))]) (H' := []) [] (sub_cons rfl sub_nil) (by decide) pick_nil ?_
  exact tx_ret1' Try.results54 rfl () (rv_tmp' rfl) (List.Sublist.refl _)
 replace hp := (br_f h1).symm.trans hp
 refine cx_skip' ?_
 show TX E K2 _
 refine tx_k' hK2 ?_
 refine cx_seq' fun K5 hK5 => ?_
 refine cr fun K6 hK6 => ?_
 refine s0 (rd_move' rfl) ?_
 refine s0 (rd_len' rfl Try.underlying39) ?_
 refine s0 (rd_move' rfl) ?_
 refine nk hK6 ?_
 refine cx_block' ?_
 obtain ⟨y1, hy1, hp⟩ := bind_some hp
 refine cx_loopg' (F := laws_zzFits4_l1 a0) (G := fun k R v => laws_zzFits4_l1s a0 k R v) (x := 0) (gh := ()) (fun (v1 : Int) (w1 : Unit) => (⟨18, [], [(8, (Sl (Kl Kf) a0)), (9, (Vi (a0.length : Int))), (10, (Vi v1))], []⟩ : St)) (fun (y : Unit ⊕ Unit) => match y with | (.inl v2) => Zg E Exit.ret (fun (w2 : Unit) => (⟨18, [], [(2, (Vb false))], []⟩ : St)) | (.inr v3) => Zg E (Exit.exit 0) (fun (w3 : Unit) => (⟨18, [], [], []⟩ : St))) (fun _ => rfl) (fun _ _ => rfl) ?_ hy1 (tx_to' rfl [] (sub_cons rfl (sub_cons rfl (sub_cons rfl sub_nil))) (by decide) pick_nil) ?_
 ·clear hp hy1
  clear y1
  intro k rec1 KY1 ih1
  rintro x1 ⟨⟩ y1 hp
  replace hp : laws_zzFits4_l1s a0 k rec1 x1 = some y1 := hp
  unfold laws_zzFits4_l1s at hp
  refine cr fun K13 hK13 => ?_
  refine s0 (rd_bin' rfl rfl eg_int ru_lss) ?_
  refine nk hK13 ?_
  refine cx_seq' fun K14 hK14 => ?_
  refine cx_cond' rfl (fun h5 => ?_) (fun h5 => ?_)
  ·replace hp := (br_t h5).symm.trans hp
   refine cx_skip' ?_
   show TX E K14 _
   refine tx_k' hK14 ?_
   refine cx_seq' fun K15 hK15 => ?_
   refine cx_block' ?_
   refine cr fun K16 hK16 => ?_
   obtain ⟨r12, hr12, hp⟩ := bind_some hp
   refine s0 (rd_at' (K := (Kl Kf)) rfl rfl hr12 Try.underlying39 info22) ?_
   refine s0 (rd_load_pt' rfl rfl flat22) ?_
   refine s0 (rd_assign' rfl) ?_
   refine nk hK16 ?_
   refine cr fun K17 hK17 => ?_
   refine s0 (rd_move' rfl) ?_
   refine s0 (rd_len' rfl Try.underlying22) ?_
   refine s0 (rd_bin' rfl rfl eg_int ru_gtr) ?_
   refine nk hK17 ?_
   refine cx_cond' rfl (fun h6 => ?_) (fun h6 => ?_)
   ·replace hp := (br_t h6).symm.trans hp
    refine cr fun K18 hK18 => ?_
    refine s0 (rd_assign' rfl) ?_
    refine nk hK18 ?_
    refine cx_retc' ?_
    replace hp := Option.some.inj hp
    subst hp
    show TX E (Zg E Exit.ret _ Exit.ret) _
    exact tx_zend' () rfl [] (sub_cons rfl sub_nil) (by decide) pick_nil
   replace hp := (br_f h6).symm.trans hp
   refine cx_skip' ?_
   show TX E K15 _
   refine tx_k' hK15 ?_
   refine cx_region' ?_
   refine s0 (rd_bin' rfl rfl eg_int ru_add) ?_
   refine s0 (rd_move' rfl) ?_
   refine sx_nil' ?_
   show TX E (KY1 _) _
   exact tx_pick' [] (sub_cons rfl (sub_cons rfl (sub_cons rfl sub_nil))) (by decide) pick_nil (ih1 (iadd .i64 x1 1) () _ hp)
  replace hp := (br_f h5).symm.trans hp
  refine cx_exit' ?_
  replace hp := Option.some.inj hp
  subst hp
  show TX E (Zg E (Exit.exit 0) _ (Exit.exit 0)) _
  exact tx_zend' () rfl [] sub_nil (by decide) pick_nil
 rcases y1 with v2 | v3
 ·dsimp only at hp
  refine zg_out fun w2 => ?_
  replace hp := Option.some.inj hp
  subst hp
  refine tx_pick' (L' := [(2, (Vb false))]) (H' := []) [] (sub_cons rfl sub_nil) (by decide) pick_nil ?_
  exact tx_ret1' Try.results54 rfl () (rv_tmp' rfl) (List.Sublist.refl _)
 dsimp only at hp
 refine zg_out fun w3 => ?_
 show TX E K5 _
 refine tx_k' hK5 ?_
 refine cr fun K19 hK19 => ?_
 refine s0 (rd_assign' rfl) ?_
 refine nk hK19 ?_
 refine cx_retc' ?_
 replace hp := Option.some.inj hp
 subst hp
 refine tx_pick' (L' := [(2, (Vb true))]) (H' := []) [] (sub_cons rfl sub_nil) (by decide) pick_nil ?_
 exact tx_ret1' Try.results54 rfl () (rv_tmp' rfl) (List.Sublist.refl _)

def laws_zzFits5_l1s (a0 : List (List (List Nat))) (k : Nat) (rec1 : Int → Option (Unit ⊕ Unit)) (x1 : Int) : Option (Unit ⊕ Unit) :=
 br (decide (x1 < (a0.length : Int)))
  ((idx a0 x1) >>= fun r12 =>
  (laws_zzFits4 k r12) >>= fun r15 =>
  br (!r15)
   (some (.inl ()))
   (rec1 (iadd .i64 x1 1)))
  (some (.inr ()))
def laws_zzFits5_l1 (a0 : List (List (List Nat))) : Nat → Int → Option (Unit ⊕ Unit)
 | 0, _ => none
 | k + 1, v => laws_zzFits5_l1s a0 k (laws_zzFits5_l1 a0 k) v
def laws_zzFits5 (k : Nat) (a0 : List (List (List Nat))) : Option (Bool) :=
 br (decide (2147483647 < (a0.length : Int)))
  (some false)
  ((laws_zzFits5_l1 a0 k 0) >>= fun y1 => match y1 with
   | (.inl v2) =>
    (some false)
   | (.inr v3) =>
    (some true))

theorem laws_zzFits5_sim {k : Nat}  (a0 : List (List (List Nat))) {out : Bool} (hp : laws_zzFits5 k a0 = some out) : Sx.Fn Try.prog 14 [(Sl (Kl (Kl Kf)) a0)] [] (fun w : Unit => (Vb out)) (fun w => []) := by
 unfold laws_zzFits5 at hp
 refine fn_of Try.func14 rfl Try.ntmps14 rfl fun E hM => ?_
 refine cr fun K1 hK1 => ?_
 refine s0 (rd_assign' rfl) ?_
 refine nk hK1 ?_
 refine cx_seq' fun K2 hK2 => ?_
 refine cr fun K3 hK3 => ?_
 refine s0 (rd_move' rfl) ?_
 refine s0 (rd_len' rfl Try.underlying29) ?_
 refine s0 (rd_bin' rfl rfl eg_int ru_gtr) ?_
 refine nk hK3 ?_
 refine cx_cond' rfl (fun h1 => ?_) (fun h1 => ?_)
 ·replace hp := (br_t h1).symm.trans hp
  refine cr fun K4 hK4 => ?_
  refine s0 (rd_assign' rfl) ?_
  refine nk hK4 ?_
  refine cx_retc' ?_
  replace hp := Option.some.inj hp
  subst hp
  refine tx_pick' (L' := [(2, (Vb false))]) (H' := []) [] (sub_cons rfl sub_nil) (by decide) pick_nil ?_
  exact tx_ret1' Try.results14 rfl () (rv_tmp' rfl) (List.Sublist.refl _)
 replace hp := (br_f h1).symm.trans hp
 refine cx_skip' ?_
 show TX E K2 _
 refine tx_k' hK2 ?_
 refine cx_seq' fun K5 hK5 => ?_
 refine cr fun K6 hK6 => ?_
 refine s0 (rd_move' rfl) ?_
 refine s0 (rd_len' rfl Try.underlying29) ?_
 refine s0 (rd_move' rfl) ?_
 refine nk hK6 ?_
 refine cx_block' ?_
 obtain ⟨y1, hy1, hp⟩ := bind_some hp
 refine cx_loopg' (F := laws_zzFits5_l1 a0) (G := fun k R v => laws_zzFits5_l1s a0 k R v) (x := 0) (gh := ()) (fun (v1 : Int) (w1 : Unit) => (⟨18, [], [(8, (Sl (Kl (Kl Kf)) a0)), (9, (Vi (a0.length : Int))), (10, (Vi v1))], []⟩ : St)) (fun (y : Unit ⊕ Unit) => match y with | (.inl v2) => Zg E Exit.ret (fun (w2 : Unit) => (⟨18, [], [(2, (Vb false))], []⟩ : St)) | (.inr v3) => Zg E (Exit.exit 0) (fun (w3 : Unit) => (⟨18, [], [], []⟩ : St))) (fun _ => rfl) (fun _ _ => rfl) ?_ hy1 (tx_to' rfl [] (sub_cons rfl (sub_cons rfl (sub_cons rfl sub_nil))) (by decide) pick_nil) ?_
 ·clear hp hy1
  clear y1
  intro k rec1 KY1 ih1
  rintro x1 ⟨⟩ y1 hp
  replace hp : laws_zzFits5_l1s a0 k rec1 x1 = some y1 := hp
  unfold laws_zzFits5_l1s at hp
  refine cr fun K13 hK13 => ?_
  refine s0 (rd_bin' rfl rfl eg_int ru_lss) ?_
  refine nk hK13 ?_
  refine cx_seq' fun K14 hK14 => ?_
  refine cx_cond' rfl (fun h5 => ?_) (fun h5 => ?_)
  ·replace hp := (br_t h5).symm.trans hp
   refine cx_skip' ?_
   show TX E K14 _
   refine tx_k' hK14 ?_
   refine cx_seq' fun K15 hK15 => ?_
   refine cx_block' ?_
   refine cr fun K16 hK16 => ?_
   obtain ⟨r12, hr12, hp⟩ := bind_some hp
   refine s0 (rd_at' (K := (Kl (Kl Kf))) rfl rfl hr12 Try.underlying29 info39) ?_
   refine s0 (rd_load_pt' rfl rfl flat39) ?_
   refine s0 (rd_assign' rfl) ?_
   refine nk hK16 ?_
   refine cr fun K17 hK17 => ?_
   refine s0 (rd_move' rfl) ?_
   obtain ⟨r15, hr15, hp⟩ := bind_some hp
   refine sx_ox' (ox_calln' (ent_fn' Try.func54 isn54 rfl rfl) (laws_zzFits4_sim _ hr15 : Sx.Fn Try.prog 54 [(Sl (Kl Kf) r12)] [] (fun x : Unit => (Vb r15)) (fun x => [])) (Hn := fun x : Unit => []) (fun _ => rfl) rfl rfl) (wt_none' rfl) fun ⟨⟩ => ?_
   refine s0 (rd_un' rfl ru_not) ?_
   refine nk hK17 ?_
   refine cx_cond' rfl (fun h6 => ?_) (fun h6 => ?_)
   ·replace hp := (br_t h6).symm.trans hp
    refine cr fun K18 hK18 => ?_
    refine s0 (rd_assign' rfl) ?_
    refine nk hK18 ?_
    refine cx_retc' ?_
    replace hp := Option.some.inj hp
    subst hp
    show TX E (Zg E Exit.ret _ Exit.ret) _
    exact tx_zend' () rfl [] (sub_cons rfl sub_nil) (by decide) pick_nil
   replace hp := (br_f h6).symm.trans hp
   refine cx_skip' ?_
   show TX E K15 _
   refine tx_k' hK15 ?_
   refine cx_region' ?_
   refine s0 (rd_bin' rfl rfl eg_int ru_add) ?_
   refine s0 (rd_move' rfl) ?_
   refine sx_nil' ?_
   show TX E (KY1 _) _
   exact tx_pick' [] (sub_cons rfl (sub_cons rfl (sub_cons rfl sub_nil))) (by decide) pick_nil (ih1 (iadd .i64 x1 1) () _ hp)
  replace hp := (br_f h5).symm.trans hp
  refine cx_exit' ?_
  replace hp := Option.some.inj hp
  subst hp
  show TX E (Zg E (Exit.exit 0) _ (Exit.exit 0)) _
  exact tx_zend' () rfl [] sub_nil (by decide) pick_nil
 rcases y1 with v2 | v3
 ·dsimp only at hp
  refine zg_out fun w2 => ?_
  replace hp := Option.some.inj hp
  subst hp
  refine tx_pick' (L' := [(2, (Vb false))]) (H' := []) [] (sub_cons rfl sub_nil) (by decide) pick_nil ?_
  exact tx_ret1' Try.results14 rfl () (rv_tmp' rfl) (List.Sublist.refl _)
 dsimp only at hp
 refine zg_out fun w3 => ?_
 show TX E K5 _
 refine tx_k' hK5 ?_
 refine cr fun K19 hK19 => ?_
 refine s0 (rd_assign' rfl) ?_
 refine nk hK19 ?_
 refine cx_retc' ?_
 replace hp := Option.some.inj hp
 subst hp
 refine tx_pick' (L' := [(2, (Vb true))]) (H' := []) [] (sub_cons rfl sub_nil) (by decide) pick_nil ?_
 exact tx_ret1' Try.results14 rfl () (rv_tmp' rfl) (List.Sublist.refl _)

def laws_fStride_j1 (k : Nat) (x1 : Bool) : Option (Bool) :=
 some x1
def laws_fStride (k : Nat) (a0 : Int) : Option (Bool) :=
 br (decide (2 ≤ a0))
  (laws_fStride_j1 k (decide (a0 ≤ 9)))
  (laws_fStride_j1 k false)

theorem laws_fStride_sim {k : Nat}  (a0 : Int) {out : Bool} (hp : laws_fStride k a0 = some out) : Sx.Fn Try.prog 15 [(Vi a0)] [] (fun w : Unit => (Vb out)) (fun w => []) := by
 unfold laws_fStride at hp
 refine fn_of Try.func15 rfl Try.ntmps15 rfl fun E hM => ?_
 refine cr fun K1 hK1 => ?_
 refine s0 (rd_assign' rfl) ?_
 refine nk hK1 ?_
 refine cr fun K2 hK2 => ?_
 refine s0 (rd_move' rfl) ?_
 refine s0 (rd_bin' rfl rfl eg_int ru_geq) ?_
 refine s0 (rd_move' rfl) ?_
 refine sx_cutn' 3 (fun (v1 : Bool) => (⟨9, [], [(8, (Vb v1))], []⟩ : St)) (fun (v1 : Bool) => laws_fStride_j1 k v1 = some out) ?_ ?_
 ·rintro x1 hp
  replace hp : laws_fStride_j1 k x1 = some out := hp
  unfold laws_fStride_j1 at hp
  refine s0 (rd_assign' rfl) ?_
  refine nk hK2 ?_
  refine cx_retc' ?_
  replace hp := Option.some.inj hp
  subst hp
  refine tx_pick' (L' := [(2, (Vb x1))]) (H' := []) [] (sub_cons rfl sub_nil) (by decide) pick_nil ?_
  exact tx_ret1' Try.results15 rfl () (rv_tmp' rfl) (List.Sublist.refl _)
 intro K3 hK3
 rcases br_cases hp with ⟨h1, hp⟩ | ⟨h1, hp⟩
 ·refine sx_rd' (rd_move' rfl) rfl rfl (wt_is' (wt_guard' rfl rfl rfl) (beq_tt h1)) ?_
  refine sx_rd' (rd_bin' rfl rfl eg_int ru_leq) rfl rfl (wt_is' (wt_guard' rfl rfl rfl) (beq_tt h1)) ?_
  refine s0 (rd_pick_true' rfl h1 rfl) ?_
  refine sx_nil' ?_
  show TX E K3 _
  exact tx_pick' [] (sub_cons rfl sub_nil) (by decide) pick_nil (hK3 (decide (a0 ≤ 9)) hp)
 refine sx_skip' rfl rfl (wt_is' (wt_guard' rfl rfl rfl) (beq_ft h1)) ?_
 refine sx_skip' rfl rfl (wt_is' (wt_guard' rfl rfl rfl) (beq_ft h1)) ?_
 refine s0 (rd_pick_false' rfl h1 rfl) ?_
 refine sx_nil' ?_
 show TX E K3 _
 exact tx_pick' [] (sub_cons rfl sub_nil) (by decide) pick_nil (hK3 false hp)

def laws_gCount_l5s (r26 : List (List Nat)) (k : Nat) (rec5 : (Int × Int) → Option (Int)) (x13 : Int) (x14 : Int) : Option (Int) :=
 br (decide (x14 < (r26.length : Int)))
  ((idx r26 x14) >>= fun r36 =>
  rec5 ((iadd .i64 x13 (r36.length : Int)), (iadd .i64 x14 1)))
  (some x13)
def laws_gCount_l5 (r26 : List (List Nat)) : Nat → (Int × Int) → Option (Int)
 | 0, _ => none
 | k + 1, v => laws_gCount_l5s r26 k (laws_gCount_l5 r26 k) v.1 v.2
def laws_gCount_l6s (r16 : List (List (List Nat))) (k : Nat) (rec6 : (Int × Int) → Option (Int)) (x16 : Int) (x17 : Int) : Option (Int) :=
 br (decide (x17 < (r16.length : Int)))
  ((idx r16 x17) >>= fun r26 =>
  (laws_gCount_l5 r26 k ((iadd .i64 x16 (r26.length : Int)), 0)) >>= fun v12 =>
  rec6 (v12, (iadd .i64 x17 1)))
  (some x16)
def laws_gCount_l6 (r16 : List (List (List Nat))) : Nat → (Int × Int) → Option (Int)
 | 0, _ => none
 | k + 1, v => laws_gCount_l6s r16 k (laws_gCount_l6 r16 k) v.1 v.2
def laws_gCount_l7s (a0 : List (List (List (List Nat)))) (k : Nat) (rec7 : (Int × Int) → Option (Int)) (x19 : Int) (x20 : Int) : Option (Int) :=
 br (decide (x20 < (a0.length : Int)))
  ((idx a0 x20) >>= fun r16 =>
  (laws_gCount_l6 r16 k ((iadd .i64 x19 (r16.length : Int)), 0)) >>= fun v13 =>
  rec7 (v13, (iadd .i64 x20 1)))
  (some x19)
def laws_gCount_l7 (a0 : List (List (List (List Nat)))) : Nat → (Int × Int) → Option (Int)
 | 0, _ => none
 | k + 1, v => laws_gCount_l7s a0 k (laws_gCount_l7 a0 k) v.1 v.2
def laws_gCount (k : Nat) (a0 : List (List (List (List Nat)))) : Option (Int) :=
 (laws_gCount_l7 a0 k ((a0.length : Int), 0)) >>= fun v14 =>
 some v14

theorem laws_gCount_sim {k : Nat}  (a0 : List (List (List (List Nat)))) {out : Int} (hp : laws_gCount k a0 = some out) : Sx.Fn Try.prog 55 [(Sl (Kl (Kl (Kl Kf))) a0)] [] (fun w : Unit => (Vi out)) (fun w => []) := by
 unfold laws_gCount at hp
 refine fn_of Try.func55 rfl Try.ntmps55 rfl fun E hM => ?_
 refine cr fun K1 hK1 => ?_
 refine s0 (rd_assign' rfl) ?_
 refine nk hK1 ?_
 refine cr fun K2 hK2 => ?_
 refine s0 (rd_move' rfl) ?_
 refine s0 (rd_len' rfl Try.underlying33) ?_
 refine s0 (rd_assign' rfl) ?_
 refine nk hK2 ?_
 refine cx_seq' fun K3 hK3 => ?_
 refine cr fun K4 hK4 => ?_
 refine s0 (rd_move' rfl) ?_
 refine s0 (rd_len' rfl Try.underlying33) ?_
 refine s0 (rd_move' rfl) ?_
 refine nk hK4 ?_
 refine cx_block' ?_
 obtain ⟨v14, hy7, hp⟩ := bind_some hp
 refine cx_loopg' (F := laws_gCount_l7 a0) (G := fun k R v => laws_gCount_l7s a0 k R v.1 v.2) (x := ((a0.length : Int), 0)) (gh := ()) (fun (v7 : Int × Int) (w7 : Unit) => (⟨46, [], [(3, (Vi v7.1)), (12, (Sl (Kl (Kl (Kl Kf))) a0)), (13, (Vi (a0.length : Int))), (14, (Vi v7.2))], []⟩ : St)) (fun (v14 : Int) => Zg E (Exit.exit 0) (fun (w14 : Unit) => (⟨46, [], [(3, (Vi v14))], []⟩ : St))) (fun _ => rfl) (fun _ _ => rfl) ?_ hy7 (tx_to' rfl [] (sub_cons rfl (sub_cons rfl (sub_cons rfl (sub_cons rfl sub_nil)))) (by decide) pick_nil) ?_
 ·clear hp hy7
  clear v14
  intro k rec7 KY7 ih7
  rintro ⟨x19, x20⟩ ⟨⟩ y7 hp
  replace hp : laws_gCount_l7s a0 k rec7 x19 x20 = some y7 := hp
  unfold laws_gCount_l7s at hp
  refine cr fun K39 hK39 => ?_
  refine s0 (rd_bin' rfl rfl eg_int ru_lss) ?_
  refine nk hK39 ?_
  refine cx_seq' fun K40 hK40 => ?_
  refine cx_cond' rfl (fun h12 => ?_) (fun h12 => ?_)
  ·replace hp := (br_t h12).symm.trans hp
   refine cx_skip' ?_
   show TX E K40 _
   refine tx_k' hK40 ?_
   refine cx_seq' fun K41 hK41 => ?_
   refine cx_block' ?_
   refine cr fun K42 hK42 => ?_
   obtain ⟨r16, hr16, hp⟩ := bind_some hp
   refine s0 (rd_at' (K := (Kl (Kl (Kl Kf)))) rfl rfl hr16 Try.underlying33 info29) ?_
   refine s0 (rd_load_pt' rfl rfl flat29) ?_
   refine s0 (rd_assign' rfl) ?_
   refine nk hK42 ?_
   refine cr fun K43 hK43 => ?_
   refine s0 (rd_move' rfl) ?_
   refine s0 (rd_move' rfl) ?_
   refine s0 (rd_len' rfl Try.underlying29) ?_
   refine s0 (rd_bin' rfl rfl eg_int ru_add) ?_
   refine s0 (rd_assign' rfl) ?_
   refine nk hK43 ?_
   refine cr fun K44 hK44 => ?_
   refine s0 (rd_move' rfl) ?_
   refine s0 (rd_len' rfl Try.underlying29) ?_
   refine s0 (rd_move' rfl) ?_
   refine nk hK44 ?_
   refine cx_block' ?_
   obtain ⟨v13, hy6, hp⟩ := bind_some hp
   refine cx_loopg' (F := laws_gCount_l6 r16) (G := fun k R v => laws_gCount_l6s r16 k R v.1 v.2) (x := ((iadd .i64 x19 (r16.length : Int)), 0)) (gh := ()) (fun (v10 : Int × Int) (w10 : Unit) => (⟨46, [], [(3, (Vi v10.1)), (12, (Sl (Kl (Kl (Kl Kf))) a0)), (13, (Vi (a0.length : Int))), (14, (Vi x20)), (22, (Sl (Kl (Kl Kf)) r16)), (23, (Vi (r16.length : Int))), (24, (Vi v10.2))], []⟩ : St)) (fun (v13 : Int) => Zg E (Exit.exit 2) (fun (w13 : Unit) => (⟨46, [], [(3, (Vi v13)), (12, (Sl (Kl (Kl (Kl Kf))) a0)), (13, (Vi (a0.length : Int))), (14, (Vi x20))], []⟩ : St))) (fun _ => rfl) (fun _ _ => rfl) ?_ hy6 (tx_to' rfl [] (sub_cons rfl (sub_cons rfl (sub_cons rfl (sub_cons rfl (sub_cons rfl (sub_cons rfl (sub_cons rfl sub_nil))))))) (by decide) pick_nil) ?_
   ·clear hp hy6
    clear v13
    intro k rec6 KY6 ih6
    rintro ⟨x16, x17⟩ ⟨⟩ y6 hp
    replace hp : laws_gCount_l6s r16 k rec6 x16 x17 = some y6 := hp
    unfold laws_gCount_l6s at hp
    refine cr fun K59 hK59 => ?_
    refine s0 (rd_bin' rfl rfl eg_int ru_lss) ?_
    refine nk hK59 ?_
    refine cx_seq' fun K60 hK60 => ?_
    refine cx_cond' rfl (fun h18 => ?_) (fun h18 => ?_)
    ·replace hp := (br_t h18).symm.trans hp
     refine cx_skip' ?_
     show TX E K60 _
     refine tx_k' hK60 ?_
     refine cx_seq' fun K61 hK61 => ?_
     refine cx_block' ?_
     refine cr fun K62 hK62 => ?_
     obtain ⟨r26, hr26, hp⟩ := bind_some hp
     refine s0 (rd_at' (K := (Kl (Kl Kf))) rfl rfl hr26 Try.underlying29 info39) ?_
     refine s0 (rd_load_pt' rfl rfl flat39) ?_
     refine s0 (rd_assign' rfl) ?_
     refine nk hK62 ?_
     refine cr fun K63 hK63 => ?_
     refine s0 (rd_move' rfl) ?_
     refine s0 (rd_move' rfl) ?_
     refine s0 (rd_len' rfl Try.underlying39) ?_
     refine s0 (rd_bin' rfl rfl eg_int ru_add) ?_
     refine s0 (rd_assign' rfl) ?_
     refine nk hK63 ?_
     refine cr fun K64 hK64 => ?_
     refine s0 (rd_move' rfl) ?_
     refine s0 (rd_len' rfl Try.underlying39) ?_
     refine s0 (rd_move' rfl) ?_
     refine nk hK64 ?_
     refine cx_block' ?_
     obtain ⟨v12, hy5, hp⟩ := bind_some hp
     refine cx_loopg' (F := laws_gCount_l5 r26) (G := fun k R v => laws_gCount_l5s r26 k R v.1 v.2) (x := ((iadd .i64 x16 (r26.length : Int)), 0)) (gh := ()) (fun (v11 : Int × Int) (w11 : Unit) => (⟨46, [], [(3, (Vi v11.1)), (12, (Sl (Kl (Kl (Kl Kf))) a0)), (13, (Vi (a0.length : Int))), (14, (Vi x20)), (22, (Sl (Kl (Kl Kf)) r16)), (23, (Vi (r16.length : Int))), (24, (Vi x17)), (32, (Sl (Kl Kf) r26)), (33, (Vi (r26.length : Int))), (34, (Vi v11.2))], []⟩ : St)) (fun (v12 : Int) => Zg E (Exit.exit 4) (fun (w12 : Unit) => (⟨46, [], [(3, (Vi v12)), (12, (Sl (Kl (Kl (Kl Kf))) a0)), (13, (Vi (a0.length : Int))), (14, (Vi x20)), (22, (Sl (Kl (Kl Kf)) r16)), (23, (Vi (r16.length : Int))), (24, (Vi x17))], []⟩ : St))) (fun _ => rfl) (fun _ _ => rfl) ?_ hy5 (tx_to' rfl [] (sub_cons rfl (sub_cons rfl (sub_cons rfl (sub_cons rfl (sub_cons rfl (sub_cons rfl (sub_cons rfl (sub_cons rfl (sub_cons rfl (sub_cons rfl sub_nil)))))))))) (by decide) pick_nil) ?_
     ·clear hp hy5
      clear v12
      intro k rec5 KY5 ih5
      rintro ⟨x13, x14⟩ ⟨⟩ y5 hp
      replace hp : laws_gCount_l5s r26 k rec5 x13 x14 = some y5 := hp
      unfold laws_gCount_l5s at hp
      refine cr fun K69 hK69 => ?_
      refine s0 (rd_bin' rfl rfl eg_int ru_lss) ?_
      refine nk hK69 ?_
      refine cx_seq' fun K70 hK70 => ?_
      refine cx_cond' rfl (fun h21 => ?_) (fun h21 => ?_)
      ·replace hp := (br_t h21).symm.trans hp
       refine cx_skip' ?_
       show TX E K70 _
       refine tx_k' hK70 ?_
       refine cx_seq' fun K71 hK71 => ?_
       refine cx_block' ?_
       refine cr fun K72 hK72 => ?_
       obtain ⟨r36, hr36, hp⟩ := bind_some hp
       refine s0 (rd_at' (K := (Kl Kf)) rfl rfl hr36 Try.underlying39 info22) ?_
       refine s0 (rd_load_pt' rfl rfl flat22) ?_
       refine s0 (rd_assign' rfl) ?_
       refine nk hK72 ?_
       refine cx_region' ?_
       refine s0 (rd_move' rfl) ?_
       refine s0 (rd_move' rfl) ?_
       refine s0 (rd_len' rfl Try.underlying22) ?_
       refine s0 (rd_bin' rfl rfl eg_int ru_add) ?_
       refine s0 (rd_assign' rfl) ?_
       refine nk hK71 ?_
       refine cx_region' ?_
       refine s0 (rd_bin' rfl rfl eg_int ru_add) ?_
       refine s0 (rd_move' rfl) ?_
       refine sx_nil' ?_
       show TX E (KY5 _) _
       exact tx_pick' [] (sub_cons rfl (sub_cons rfl (sub_cons rfl (sub_cons rfl (sub_cons rfl (sub_cons rfl (sub_cons rfl (sub_cons rfl (sub_cons rfl (sub_cons rfl sub_nil)))))))))) (by decide) pick_nil (ih5 ((iadd .i64 x13 (r36.length : Int)), (iadd .i64 x14 1)) () _ hp)
      replace hp := (br_f h21).symm.trans hp
      refine cx_exit' ?_
      replace hp := Option.some.inj hp
      subst hp
      show TX E (Zg E (Exit.exit 4) _ (Exit.exit 4)) _
      exact tx_zend' () rfl [] (sub_cons rfl (sub_cons rfl (sub_cons rfl (sub_cons rfl (sub_cons rfl (sub_cons rfl (sub_cons rfl sub_nil))))))) (by decide) pick_nil
     refine zg_out fun w12 => ?_
     show TX E K61 _
     refine tx_k' hK61 ?_
     refine cx_region' ?_
     refine s0 (rd_bin' rfl rfl eg_int ru_add) ?_
     refine s0 (rd_move' rfl) ?_
     refine sx_nil' ?_
     show TX E (KY6 _) _
     exact tx_pick' [] (sub_cons rfl (sub_cons rfl (sub_cons rfl (sub_cons rfl (sub_cons rfl (sub_cons rfl (sub_cons rfl sub_nil))))))) (by decide) pick_nil (ih6 (v12, (iadd .i64 x17 1)) () _ hp)
    replace hp := (br_f h18).symm.trans hp
    refine cx_exit' ?_
    replace hp := Option.some.inj hp
    subst hp
    show TX E (Zg E (Exit.exit 2) _ (Exit.exit 2)) _
    exact tx_zend' () rfl [] (sub_cons rfl (sub_cons rfl (sub_cons rfl (sub_cons rfl sub_nil)))) (by decide) pick_nil
   refine zg_out fun w13 => ?_
   show TX E K41 _
   refine tx_k' hK41 ?_
   refine cx_region' ?_
   refine s0 (rd_bin' rfl rfl eg_int ru_add) ?_
   refine s0 (rd_move' rfl) ?_
   refine sx_nil' ?_
   show TX E (KY7 _) _
   exact tx_pick' [] (sub_cons rfl (sub_cons rfl (sub_cons rfl (sub_cons rfl sub_nil)))) (by decide) pick_nil (ih7 (v13, (iadd .i64 x20 1)) () _ hp)
  replace hp := (br_f h12).symm.trans hp
  refine cx_exit' ?_
  replace hp := Option.some.inj hp
  subst hp
  show TX E (Zg E (Exit.exit 0) _ (Exit.exit 0)) _
  exact tx_zend' () rfl [] (sub_cons rfl sub_nil) (by decide) pick_nil
 refine zg_out fun w14 => ?_
 show TX E K3 _
 refine tx_k' hK3 ?_
 refine cr fun K73 hK73 => ?_
 refine s0 (rd_move' rfl) ?_
 refine s0 (rd_assign' rfl) ?_
 refine nk hK73 ?_
 refine cx_retc' ?_
 replace hp := Option.some.inj hp
 subst hp
 refine tx_pick' (L' := [(2, (Vi v14))]) (H' := []) [] (sub_cons rfl sub_nil) (by decide) pick_nil ?_
 exact tx_ret1' Try.results55 rfl () (rv_tmp' rfl) (List.Sublist.refl _)

def laws_fCoords_l5s (r19 : List (List Nat)) (k : Nat) (rec5 : Int → Option (Unit ⊕ Unit)) (x5 : Int) : Option (Unit ⊕ Unit) :=
 br (decide (x5 < (r19.length : Int)))
  ((idx r19 x5) >>= fun r25 =>
  br (decide ((r25.length : Int) = 0))
   (some (.inl ()))
   (rec5 (iadd .i64 x5 1)))
  (some (.inr ()))
def laws_fCoords_l5 (r19 : List (List Nat)) : Nat → Int → Option (Unit ⊕ Unit)
 | 0, _ => none
 | k + 1, v => laws_fCoords_l5s r19 k (laws_fCoords_l5 r19 k) v
def laws_fCoords_l6s (r13 : List (List (List Nat))) (k : Nat) (rec6 : Int → Option (Unit ⊕ Unit)) (x6 : Int) : Option (Unit ⊕ Unit) :=
 br (decide (x6 < (r13.length : Int)))
  ((idx r13 x6) >>= fun r19 =>
  (laws_fCoords_l5 r19 k 0) >>= fun y5 => match y5 with
   | (.inl v16) =>
    (some (.inl ()))
   | (.inr v17) =>
    (rec6 (iadd .i64 x6 1)))
  (some (.inr ()))
def laws_fCoords_l6 (r13 : List (List (List Nat))) : Nat → Int → Option (Unit ⊕ Unit)
 | 0, _ => none
 | k + 1, v => laws_fCoords_l6s r13 k (laws_fCoords_l6 r13 k) v
def laws_fCoords_l7s (a0 : List (List (List (List Nat)))) (k : Nat) (rec7 : Int → Option (Unit ⊕ Unit)) (x7 : Int) : Option (Unit ⊕ Unit) :=
 br (decide (x7 < (a0.length : Int)))
  ((idx a0 x7) >>= fun r13 =>
  (laws_fCoords_l6 r13 k 0) >>= fun y6 => match y6 with
   | (.inl v18) =>
    (some (.inl ()))
   | (.inr v19) =>
    (rec7 (iadd .i64 x7 1)))
  (some (.inr ()))
def laws_fCoords_l7 (a0 : List (List (List (List Nat)))) : Nat → Int → Option (Unit ⊕ Unit)
 | 0, _ => none
 | k + 1, v => laws_fCoords_l7s a0 k (laws_fCoords_l7 a0 k) v
def laws_fCoords (k : Nat) (a0 : List (List (List (List Nat)))) : Option (Bool) :=
 (laws_fCoords_l7 a0 k 0) >>= fun y7 => match y7 with
  | (.inl v20) =>
   (some false)
  | (.inr v21) =>
   ((laws_gCount k a0) >>= fun r34 =>
   some (decide (r34 ≤ 2000)))

theorem laws_fCoords_sim {k : Nat}  (a0 : List (List (List (List Nat)))) {out : Bool} (hp : laws_fCoords k a0 = some out) : Sx.Fn Try.prog 16 [(Sl (Kl (Kl (Kl Kf))) a0)] [] (fun w : Unit => (Vb out)) (fun w => []) := by
 unfold laws_fCoords at hp
 refine fn_of Try.func16 rfl Try.ntmps16 rfl fun E hM => ?_
 refine cr fun K1 hK1 => ?_
 refine s0 (rd_assign' rfl) ?_
 refine nk hK1 ?_
 refine cx_seq' fun K2 hK2 => ?_
 refine cr fun K3 hK3 => ?_
 refine s0 (rd_move' rfl) ?_
 refine s0 (rd_len' rfl Try.underlying33) ?_
 refine s0 (rd_move' rfl) ?_
 refine nk hK3 ?_
 refine cx_block' ?_
 obtain ⟨y7, hy7, hp⟩ := bind_some hp
 refine cx_loopg' (F := laws_fCoords_l7 a0) (G := fun k R v => laws_fCoords_l7s a0 k R v) (x := 0) (gh := ()) (fun (v10 : Int) (w10 : Unit) => (⟨36, [], [(0, (Sl (Kl (Kl (Kl Kf))) a0)), (9, (Sl (Kl (Kl (Kl Kf))) a0)), (10, (Vi (a0.length : Int))), (11, (Vi v10))], []⟩ : St)) (fun (y : Unit ⊕ Unit) => match y with | (.inl v20) => Zg E Exit.ret (fun (w20 : Unit) => (⟨36, [], [(2, (Vb false))], []⟩ : St)) | (.inr v21) => Zg E (Exit.exit 0) (fun (w21 : Unit) => (⟨36, [], [(0, (Sl (Kl (Kl (Kl Kf))) a0))], []⟩ : St))) (fun _ => rfl) (fun _ _ => rfl) ?_ hy7 (tx_to' rfl [] (sub_cons rfl (sub_cons rfl (sub_cons rfl (sub_cons rfl sub_nil)))) (by decide) pick_nil) ?_
 ·clear hp hy7
  clear y7
  intro k rec7 KY7 ih7
  rintro x7 ⟨⟩ y7 hp
  replace hp : laws_fCoords_l7s a0 k rec7 x7 = some y7 := hp
  unfold laws_fCoords_l7s at hp
  refine cr fun K43 hK43 => ?_
  refine s0 (rd_bin' rfl rfl eg_int ru_lss) ?_
  refine nk hK43 ?_
  refine cx_seq' fun K44 hK44 => ?_
  refine cx_cond' rfl (fun h16 => ?_) (fun h16 => ?_)
  ·replace hp := (br_t h16).symm.trans hp
   refine cx_skip' ?_
   show TX E K44 _
   refine tx_k' hK44 ?_
   refine cx_seq' fun K45 hK45 => ?_
   refine cx_block' ?_
   refine cr fun K46 hK46 => ?_
   obtain ⟨r13, hr13, hp⟩ := bind_some hp
   refine s0 (rd_at' (K := (Kl (Kl (Kl Kf)))) rfl rfl hr13 Try.underlying33 info29) ?_
   refine s0 (rd_load_pt' rfl rfl flat29) ?_
   refine s0 (rd_assign' rfl) ?_
   refine nk hK46 ?_
   refine cr fun K47 hK47 => ?_
   refine s0 (rd_move' rfl) ?_
   refine s0 (rd_len' rfl Try.underlying29) ?_
   refine s0 (rd_move' rfl) ?_
   refine nk hK47 ?_
   refine cx_block' ?_
   obtain ⟨y6, hy6, hp⟩ := bind_some hp
   refine cx_loopg' (F := laws_fCoords_l6 r13) (G := fun k R v => laws_fCoords_l6s r13 k R v) (x := 0) (gh := ()) (fun (v14 : Int) (w14 : Unit) => (⟨36, [], [(0, (Sl (Kl (Kl (Kl Kf))) a0)), (9, (Sl (Kl (Kl (Kl Kf))) a0)), (10, (Vi (a0.length : Int))), (11, (Vi x7)), (15, (Sl (Kl (Kl Kf)) r13)), (16, (Vi (r13.length : Int))), (17, (Vi v14))], []⟩ : St)) (fun (y : Unit ⊕ Unit) => match y with | (.inl v18) => Zg E Exit.ret (fun (w18 : Unit) => (⟨36, [], [(2, (Vb false))], []⟩ : St)) | (.inr v19) => Zg E (Exit.exit 2) (fun (w19 : Unit) => (⟨36, [], [(0, (Sl (Kl (Kl (Kl Kf))) a0)), (9, (Sl (Kl (Kl (Kl Kf))) a0)), (10, (Vi (a0.length : Int))), (11, (Vi x7))], []⟩ : St))) (fun _ => rfl) (fun _ _ => rfl) ?_ hy6 (tx_to' rfl [] (sub_cons rfl (sub_cons rfl (sub_cons rfl (sub_cons rfl (sub_cons rfl (sub_cons rfl (sub_cons rfl sub_nil))))))) (by decide) pick_nil) ?_
   ·clear hp hy6
    clear y6
    intro k rec6 KY6 ih6
    rintro x6 ⟨⟩ y6 hp
    replace hp : laws_fCoords_l6s r13 k rec6 x6 = some y6 := hp
    unfold laws_fCoords_l6s at hp
    refine cr fun K65 hK65 => ?_
    refine s0 (rd_bin' rfl rfl eg_int ru_lss) ?_
    refine nk hK65 ?_
    refine cx_seq' fun K66 hK66 => ?_
    refine cx_cond' rfl (fun h24 => ?_) (fun h24 => ?_)
    ·replace hp := (br_t h24).symm.trans hp
     refine cx_skip' ?_
     show TX E K66 _
     refine tx_k' hK66 ?_
     refine cx_seq' fun K67 hK67 => ?_
     refine cx_block' ?_
     refine cr fun K68 hK68 => ?_
     obtain ⟨r19, hr19, hp⟩ := bind_some hp
     refine s0 (rd_at' (K := (Kl (Kl Kf))) rfl rfl hr19 Try.underlying29 info39) ?_
     refine s0 (rd_load_pt' rfl rfl flat39) ?_
     refine s0 (rd_assign' rfl) ?_
     refine nk hK68 ?_
     refine cr fun K69 hK69 => ?_
     refine s0 (rd_move' rfl) ?_
     refine s0 (rd_len' rfl Try.underlying39) ?_
     refine s0 (rd_move' rfl) ?_
     refine nk hK69 ?_
     refine cx_block' ?_
     obtain ⟨y5, hy5, hp⟩ := bind_some hp
     refine cx_loopg' (F := laws_fCoords_l5 r19) (G := fun k R v => laws_fCoords_l5s r19 k R v) (x := 0) (gh := ()) (fun (v15 : Int) (w15 : Unit) => (⟨36, [], [(0, (Sl (Kl (Kl (Kl Kf))) a0)), (9, (Sl (Kl (Kl (Kl Kf))) a0)), (10, (Vi (a0.length : Int))), (11, (Vi x7)), (15, (Sl (Kl (Kl Kf)) r13)), (16, (Vi (r13.length : Int))), (17, (Vi x6)), (21, (Sl (Kl Kf) r19)), (22, (Vi (r19.length : Int))), (23, (Vi v15))], []⟩ : St)) (fun (y : Unit ⊕ Unit) => match y with | (.inl v16) => Zg E Exit.ret (fun (w16 : Unit) => (⟨36, [], [(2, (Vb false))], []⟩ : St)) | (.inr v17) => Zg E (Exit.exit 4) (fun (w17 : Unit) => (⟨36, [], [(0, (Sl (Kl (Kl (Kl Kf))) a0)), (9, (Sl (Kl (Kl (Kl Kf))) a0)), (10, (Vi (a0.length : Int))), (11, (Vi x7)), (15, (Sl (Kl (Kl Kf)) r13)), (16, (Vi (r13.length : Int))), (17, (Vi x6))], []⟩ : St))) (fun _ => rfl) (fun _ _ => rfl) ?_ hy5 (tx_to' rfl [] (sub_cons rfl (sub_cons rfl (sub_cons rfl (sub_cons rfl (sub_cons rfl (sub_cons rfl (sub_cons rfl (sub_cons rfl (sub_cons rfl (sub_cons rfl sub_nil)))))))))) (by decide) pick_nil) ?_
     ·clear hp hy5
      clear y5
      intro k rec5 KY5 ih5
      rintro x5 ⟨⟩ y5 hp
      replace hp : laws_fCoords_l5s r19 k rec5 x5 = some y5 := hp
      unfold laws_fCoords_l5s at hp
      refine cr fun K76 hK76 => ?_
      refine s0 (rd_bin' rfl rfl eg_int ru_lss) ?_
      refine nk hK76 ?_
      refine cx_seq' fun K77 hK77 => ?_
      refine cx_cond' rfl (fun h28 => ?_) (fun h28 => ?_)
      ·replace hp := (br_t h28).symm.trans hp
       refine cx_skip' ?_
       show TX E K77 _
       refine tx_k' hK77 ?_
       refine cx_seq' fun K78 hK78 => ?_
       refine cx_block' ?_
       refine cr fun K79 hK79 => ?_
       obtain ⟨r25, hr25, hp⟩ := bind_some hp
       refine s0 (rd_at' (K := (Kl Kf)) rfl rfl hr25 Try.underlying39 info22) ?_
       refine s0 (rd_load_pt' rfl rfl flat22) ?_
       refine s0 (rd_assign' rfl) ?_
       refine nk hK79 ?_
       refine cr fun K80 hK80 => ?_
       refine s0 (rd_move' rfl) ?_
       refine s0 (rd_len' rfl Try.underlying22) ?_
       refine s0 (rd_bin' rfl rfl eg_int ru_eql) ?_
       refine nk hK80 ?_
       refine cx_cond' rfl (fun h29 => ?_) (fun h29 => ?_)
       ·replace hp := (br_t h29).symm.trans hp
        refine cr fun K81 hK81 => ?_
        refine s0 (rd_assign' rfl) ?_
        refine nk hK81 ?_
        refine cx_retc' ?_
        replace hp := Option.some.inj hp
        subst hp
        show TX E (Zg E Exit.ret _ Exit.ret) _
        exact tx_zend' () rfl [] (sub_cons rfl sub_nil) (by decide) pick_nil
       replace hp := (br_f h29).symm.trans hp
       refine cx_skip' ?_
       show TX E K78 _
       refine tx_k' hK78 ?_
       refine cx_region' ?_
       refine s0 (rd_bin' rfl rfl eg_int ru_add) ?_
       refine s0 (rd_move' rfl) ?_
       refine sx_nil' ?_
       show TX E (KY5 _) _
       exact tx_pick' [] (sub_cons rfl (sub_cons rfl (sub_cons rfl (sub_cons rfl (sub_cons rfl (sub_cons rfl (sub_cons rfl (sub_cons rfl (sub_cons rfl (sub_cons rfl sub_nil)))))))))) (by decide) pick_nil (ih5 (iadd .i64 x5 1) () _ hp)
      replace hp := (br_f h28).symm.trans hp
      refine cx_exit' ?_
      replace hp := Option.some.inj hp
      subst hp
      show TX E (Zg E (Exit.exit 4) _ (Exit.exit 4)) _
      exact tx_zend' () rfl [] (sub_cons rfl (sub_cons rfl (sub_cons rfl (sub_cons rfl (sub_cons rfl (sub_cons rfl (sub_cons rfl sub_nil))))))) (by decide) pick_nil
     rcases y5 with v16 | v17
     ·dsimp only at hp
      refine zg_out fun w16 => ?_
      replace hp := Option.some.inj hp
      subst hp
      show TX E (Zg E Exit.ret _ Exit.ret) _
      exact tx_zend' () rfl [] (sub_cons rfl sub_nil) (by decide) pick_nil
     dsimp only at hp
     refine zg_out fun w17 => ?_
     show TX E K67 _
     refine tx_k' hK67 ?_
     refine cx_region' ?_
     refine s0 (rd_bin' rfl rfl eg_int ru_add) ?_
     refine s0 (rd_move' rfl) ?_
     refine sx_nil' ?_
     show TX E (KY6 _) _
     exact tx_pick' [] (sub_cons rfl (sub_cons rfl (sub_cons rfl (sub_cons rfl (sub_cons rfl (sub_cons rfl (sub_cons rfl sub_nil))))))) (by decide) pick_nil (ih6 (iadd .i64 x6 1) () _ hp)
    replace hp := (br_f h24).symm.trans hp
    refine cx_exit' ?_
    replace hp := Option.some.inj hp
    subst hp
    show TX E (Zg E (Exit.exit 2) _ (Exit.exit 2)) _
    exact tx_zend' () rfl [] (sub_cons rfl (sub_cons rfl (sub_cons rfl (sub_cons rfl sub_nil)))) (by decide) pick_nil
   rcases y6 with v18 | v19
   ·dsimp only at hp
    refine zg_out fun w18 => ?_
    replace hp := Option.some.inj hp
    subst hp
    show TX E (Zg E Exit.ret _ Exit.ret) _
    exact tx_zend' () rfl [] (sub_cons rfl sub_nil) (by decide) pick_nil
   dsimp only at hp
   refine zg_out fun w19 => ?_
   show TX E K45 _
   refine tx_k' hK45 ?_
   refine cx_region' ?_
   refine s0 (rd_bin' rfl rfl eg_int ru_add) ?_
   refine s0 (rd_move' rfl) ?_
   refine sx_nil' ?_
   show TX E (KY7 _) _
   exact tx_pick' [] (sub_cons rfl (sub_cons rfl (sub_cons rfl (sub_cons rfl sub_nil)))) (by decide) pick_nil (ih7 (iadd .i64 x7 1) () _ hp)
  replace hp := (br_f h16).symm.trans hp
  refine cx_exit' ?_
  replace hp := Option.some.inj hp
  subst hp
  show TX E (Zg E (Exit.exit 0) _ (Exit.exit 0)) _
  exact tx_zend' () rfl [] (sub_cons rfl sub_nil) (by decide) pick_nil
 rcases y7 with v20 | v21
 ·dsimp only at hp
  refine zg_out fun w20 => ?_
  replace hp := Option.some.inj hp
  subst hp
  refine tx_pick' (L' := [(2, (Vb false))]) (H' := []) [] (sub_cons rfl sub_nil) (by decide) pick_nil ?_
  exact tx_ret1' Try.results16 rfl () (rv_tmp' rfl) (List.Sublist.refl _)
 dsimp only at hp
 refine zg_out fun w21 => ?_
 show TX E K2 _
 refine tx_k' hK2 ?_
 refine cr fun K82 hK82 => ?_
 refine s0 (rd_move' rfl) ?_
 obtain ⟨r34, hr34, hp⟩ := bind_some hp
 refine sx_ox' (ox_calln' (ent_fn' Try.func55 isn55 rfl rfl) (laws_gCount_sim _ hr34 : Sx.Fn Try.prog 55 [(Sl (Kl (Kl (Kl Kf))) a0)] [] (fun x : Unit => (Vi r34)) (fun x => [])) (Hn := fun x : Unit => []) (fun _ => rfl) rfl rfl) (wt_none' rfl) fun ⟨⟩ => ?_
 refine s0 (rd_bin' rfl rfl eg_int ru_leq) ?_
 refine s0 (rd_assign' rfl) ?_
 refine nk hK82 ?_
 refine cx_retc' ?_
 replace hp := Option.some.inj hp
 subst hp
 refine tx_pick' (L' := [(2, (Vb (decide (r34 ≤ 2000))))]) (H' := []) [] (sub_cons rfl sub_nil) (by decide) pick_nil ?_
 exact tx_ret1' Try.results16 rfl () (rv_tmp' rfl) (List.Sublist.refl _)

def laws_fLayout (k : Nat) (a0 : Int) : Option (Int) :=
 br (decide (a0 = 2))
  (some 1)
  (br (decide (a0 = 3))
   (some 2)
   (some a0))

theorem laws_fLayout_sim {k : Nat}  (a0 : Int) {out : Int} (hp : laws_fLayout k a0 = some out) : Sx.Fn Try.prog 18 [(Vi a0)] [] (fun w : Unit => (Vi out)) (fun w => []) := by
 unfold laws_fLayout at hp
 refine fn_of Try.func18 rfl Try.ntmps18 rfl fun E hM => ?_
 refine cr fun K1 hK1 => ?_
 refine s0 (rd_assign' rfl) ?_
 refine nk hK1 ?_
 refine cx_seq' fun K2 hK2 => ?_
 refine cr fun K3 hK3 => ?_
 refine s0 (rd_move' rfl) ?_
 refine s0 (rd_bin' rfl rfl eg_int ru_eql) ?_
 refine nk hK3 ?_
 refine cx_cond' rfl (fun h1 => ?_) (fun h1 => ?_)
 ·replace hp := (br_t h1).symm.trans hp
  refine cr fun K4 hK4 => ?_
  refine s0 (rd_assign' rfl) ?_
  refine nk hK4 ?_
  refine cx_retc' ?_
  replace hp := Option.some.inj hp
  subst hp
  refine tx_pick' (L' := [(2, (Vi 1))]) (H' := []) [] (sub_cons rfl sub_nil) (by decide) pick_nil ?_
  exact tx_ret1' Try.results18 rfl () (rv_tmp' rfl) (List.Sublist.refl _)
 replace hp := (br_f h1).symm.trans hp
 refine cx_skip' ?_
 show TX E K2 _
 refine tx_k' hK2 ?_
 refine cx_seq' fun K5 hK5 => ?_
 refine cr fun K6 hK6 => ?_
 refine s0 (rd_move' rfl) ?_
 refine s0 (rd_bin' rfl rfl eg_int ru_eql) ?_
 refine nk hK6 ?_
 refine cx_cond' rfl (fun h2 => ?_) (fun h2 => ?_)
 ·replace hp := (br_t h2).symm.trans hp
  refine cr fun K7 hK7 => ?_
  refine s0 (rd_assign' rfl) ?_
  refine nk hK7 ?_
  refine cx_retc' ?_
  replace hp := Option.some.inj hp
  subst hp
  refine tx_pick' (L' := [(2, (Vi 2))]) (H' := []) [] (sub_cons rfl sub_nil) (by decide) pick_nil ?_
  exact tx_ret1' Try.results18 rfl () (rv_tmp' rfl) (List.Sublist.refl _)
 replace hp := (br_f h2).symm.trans hp
 refine cx_skip' ?_
 show TX E K5 _
 refine tx_k' hK5 ?_
 refine cr fun K8 hK8 => ?_
 refine s0 (rd_move' rfl) ?_
 refine s0 (rd_assign' rfl) ?_
 refine nk hK8 ?_
 refine cx_retc' ?_
 replace hp := Option.some.inj hp
 subst hp
 refine tx_pick' (L' := [(2, (Vi a0))]) (H' := []) [] (sub_cons rfl sub_nil) (by decide) pick_nil ?_
 exact tx_ret1' Try.results18 rfl () (rv_tmp' rfl) (List.Sublist.refl _)

def spec_Stride_j1 (k : Nat) (a0 : Int) (x1 : Bool) : Option (Int) :=
 br x1
  (some 3)
  (some a0)
def spec_Stride (k : Nat) (a0 : Int) : Option (Int) :=
 br (decide (a0 < 1))
  (some 0)
  (br (decide (a0 = 1))
   (some 2)
   (br (decide (a0 = 2))
    (spec_Stride_j1 k a0 true)
    (spec_Stride_j1 k a0 (decide (a0 = 3)))))

theorem spec_Stride_sim {k : Nat}  (a0 : Int) {out : Int} (hp : spec_Stride k a0 = some out) : Sx.Fn Try.prog 11 [(Vi a0)] [] (fun w : Unit => (Vi out)) (fun w => []) := by
 unfold spec_Stride at hp
 refine fn_of Try.func11 rfl Try.ntmps11 rfl fun E hM => ?_
 refine cr fun K1 hK1 => ?_
 refine s0 (rd_assign' rfl) ?_
 refine nk hK1 ?_
 refine cx_seq' fun K2 hK2 => ?_
 refine cx_block' ?_
 refine cr fun K3 hK3 => ?_
 refine s0 (rd_move' rfl) ?_
 refine s0 (rd_bin' rfl rfl eg_int ru_lss) ?_
 refine s0 (rd_assign' rfl) ?_
 refine nk hK3 ?_
 refine cx_cond' rfl (fun h1 => ?_) (fun h1 => ?_)
 ·replace hp := (br_t h1).symm.trans hp
  refine cr fun K4 hK4 => ?_
  refine s0 (rd_assign' rfl) ?_
  refine nk hK4 ?_
  refine cx_retc' ?_
  replace hp := Option.some.inj hp
  subst hp
  refine tx_pick' (L' := [(2, (Vi 0))]) (H' := []) [] (sub_cons rfl sub_nil) (by decide) pick_nil ?_
  exact tx_ret1' Try.results11 rfl () (rv_tmp' rfl) (List.Sublist.refl _)
 replace hp := (br_f h1).symm.trans hp
 refine cr fun K5 hK5 => ?_
 refine s0 (rd_move' rfl) ?_
 refine s0 (rd_bin' rfl rfl eg_int ru_eql) ?_
 refine s0 (rd_assign' rfl) ?_
 refine nk hK5 ?_
 refine cx_cond' rfl (fun h2 => ?_) (fun h2 => ?_)
 ·replace hp := (br_t h2).symm.trans hp
  refine cr fun K6 hK6 => ?_
  refine s0 (rd_assign' rfl) ?_
  refine nk hK6 ?_
  refine cx_retc' ?_
  replace hp := Option.some.inj hp
  subst hp
  refine tx_pick' (L' := [(2, (Vi 2))]) (H' := []) [] (sub_cons rfl sub_nil) (by decide) pick_nil ?_
  exact tx_ret1' Try.results11 rfl () (rv_tmp' rfl) (List.Sublist.refl _)
 replace hp := (br_f h2).symm.trans hp
 refine cr fun K7 hK7 => ?_
 refine s0 (rd_move' rfl) ?_
 refine s0 (rd_bin' rfl rfl eg_int ru_eql) ?_
 refine s0 (rd_move' rfl) ?_
 refine sx_cutn' 3 (fun (v1 : Bool) => (⟨17, [], [(0, (Vi a0)), (15, (Vb v1))], []⟩ : St)) (fun (v1 : Bool) => spec_Stride_j1 k a0 v1 = some out) ?_ ?_
 ·rintro x1 hp
  replace hp : spec_Stride_j1 k a0 x1 = some out := hp
  unfold spec_Stride_j1 at hp
  refine s0 (rd_assign' rfl) ?_
  refine nk hK7 ?_
  refine cx_cond' rfl (fun h4 => ?_) (fun h4 => ?_)
  ·replace hp := (br_t h4).symm.trans hp
   refine cr fun K9 hK9 => ?_
   refine s0 (rd_assign' rfl) ?_
   refine nk hK9 ?_
   refine cx_retc' ?_
   replace hp := Option.some.inj hp
   subst hp
   refine tx_pick' (L' := [(2, (Vi 3))]) (H' := []) [] (sub_cons rfl sub_nil) (by decide) pick_nil ?_
   exact tx_ret1' Try.results11 rfl () (rv_tmp' rfl) (List.Sublist.refl _)
  replace hp := (br_f h4).symm.trans hp
  refine cx_skip' ?_
  show TX E K2 _
  refine tx_k' hK2 ?_
  refine cr fun K10 hK10 => ?_
  refine s0 (rd_move' rfl) ?_
  refine s0 (rd_assign' rfl) ?_
  refine nk hK10 ?_
  refine cx_retc' ?_
  replace hp := Option.some.inj hp
  subst hp
  refine tx_pick' (L' := [(2, (Vi a0))]) (H' := []) [] (sub_cons rfl sub_nil) (by decide) pick_nil ?_
  exact tx_ret1' Try.results11 rfl () (rv_tmp' rfl) (List.Sublist.refl _)
 intro K8 hK8
 rcases br_cases hp with ⟨h3, hp⟩ | ⟨h3, hp⟩
 ·refine sx_skip' rfl rfl (wt_is' (wt_guard' rfl rfl rfl) (beq_tf h3)) ?_
  refine sx_skip' rfl rfl (wt_is' (wt_guard' rfl rfl rfl) (beq_tf h3)) ?_
  refine s0 (rd_pick_true' rfl h3 rfl) ?_
  refine sx_nil' ?_
  show TX E K8 _
  exact tx_pick' [] (sub_cons rfl (sub_cons rfl sub_nil)) (by decide) pick_nil (hK8 true hp)
 refine sx_rd' (rd_move' rfl) rfl rfl (wt_is' (wt_guard' rfl rfl rfl) (beq_ff h3)) ?_
 refine sx_rd' (rd_bin' rfl rfl eg_int ru_eql) rfl rfl (wt_is' (wt_guard' rfl rfl rfl) (beq_ff h3)) ?_
 refine s0 (rd_pick_false' rfl h3 rfl) ?_
 refine sx_nil' ?_
 show TX E K8 _
 exact tx_pick' [] (sub_cons rfl (sub_cons rfl sub_nil)) (by decide) pick_nil (hK8 (decide (a0 = 3)) hp)

def laws_gFlat_j6 (k : Nat) (rec1 : ((List Nat) × (List Int) × Bool × Int) → Option ((List Nat) × (List Int) × Bool)) (x12 : Int) (x6 : List Nat) (x7 : List Int) (x8 : Bool) : Option ((List Nat) × (List Int) × Bool) :=
 rec1 (x6, x7, x8, (iadd .i64 x12 1))
def laws_gFlat_j7 (k : Nat) (x9 : List Nat) (r15 : List Nat) (a1 : Bool) (x10 : List Int) (rec1 : ((List Nat) × (List Int) × Bool × Int) → Option ((List Nat) × (List Int) × Bool)) (x12 : Int) (x13 : Bool) : Option ((List Nat) × (List Int) × Bool) :=
 (apd 8 x9 r15) >>= fun r34 =>
 br a1
  ((apd 8 x10 ([(r34.length : Int)])) >>= fun r40 =>
  laws_gFlat_j6 k rec1 x12 r34 r40 x13)
  (laws_gFlat_j6 k rec1 x12 r34 x10 x13)
def laws_gFlat_j5 (k : Nat) (x9 : List Nat) (r15 : List Nat) (a1 : Bool) (x10 : List Int) (rec1 : ((List Nat) × (List Int) × Bool × Int) → Option ((List Nat) × (List Int) × Bool)) (x12 : Int) (x5 : Bool) : Option ((List Nat) × (List Int) × Bool) :=
 laws_gFlat_j7 k x9 r15 a1 x10 rec1 x12 x5
def laws_gFlat_j4 (k : Nat) (x9 : List Nat) (r15 : List Nat) (a1 : Bool) (x10 : List Int) (rec1 : ((List Nat) × (List Int) × Bool × Int) → Option ((List Nat) × (List Int) × Bool)) (x12 : Int) : Option ((List Nat) × (List Int) × Bool) :=
 laws_gFlat_j5 k x9 r15 a1 x10 rec1 x12 false
def laws_gFlat_l1s (a2 : List (List Nat)) (a0 : Int) (a1 : Bool) (k : Nat) (rec1 : ((List Nat) × (List Int) × Bool × Int) → Option ((List Nat) × (List Int) × Bool)) (x9 : List Nat) (x10 : List Int) (x11 : Bool) (x12 : Int) : Option ((List Nat) × (List Int) × Bool) :=
 br (decide (x12 < (a2.length : Int)))
  ((idx a2 x12) >>= fun r15 =>
  br x11
   ((spec_Stride k a0) >>= fun r22 =>
   br (decide ((r15.length : Int) = r22))
    (laws_gFlat_j5 k x9 r15 a1 x10 rec1 x12 true)
    (br a1
     ((some1 r15) >>= fun z2 =>
     laws_gFlat_j4 k x9 r15 a1 x10 rec1 x12)
     (laws_gFlat_j4 k x9 r15 a1 x10 rec1 x12)))
   (laws_gFlat_j7 k x9 r15 a1 x10 rec1 x12 false))
  (some (x9, x10, x11))
def laws_gFlat_l1 (a2 : List (List Nat)) (a0 : Int) (a1 : Bool) : Nat → ((List Nat) × (List Int) × Bool × Int) → Option ((List Nat) × (List Int) × Bool)
 | 0, _ => none
 | k + 1, v => laws_gFlat_l1s a2 a0 a1 k (laws_gFlat_l1 a2 a0 a1 k) v.1 v.2.1 v.2.2.1 v.2.2.2
def laws_gFlat (k : Nat) (a0 : Int) (a1 : Bool) (a2 : List (List Nat)) : Option ((List Nat) × (List Int) × Bool) :=
 (laws_gFlat_l1 a2 a0 a1 k ([], [], true, 0)) >>= fun v9 =>
 some (v9.1, v9.2.1, v9.2.2)

theorem laws_gFlat_sim {k : Nat}  (a0 : Int) (a1 : Bool) (a2 : List (List Nat)) {out : (List Nat) × (List Int) × Bool} (hp : laws_gFlat k a0 a1 a2 = some out) : Sx.Fn Try.prog 56 [(Vi a0), (Vb a1), (Sl (Kl Kf) a2)] [] (fun w : Unit => (Tu [(Sl Kf out.1), (Sl (Ki .i64) out.2.1), (Vb out.2.2)])) (fun w => []) := by
 unfold laws_gFlat at hp
 refine fn_of Try.func56 rfl Try.ntmps56 rfl fun E hM => ?_
 refine cr fun K1 hK1 => ?_
 refine s0 (rd_assign' rfl) ?_
 refine s0 (rd_assign' rfl) ?_
 refine s0 (rd_assign' rfl) ?_
 refine nk hK1 ?_
 refine cr fun K2 hK2 => ?_
 refine s0 (rd_assign' rfl) ?_
 refine nk hK2 ?_
 refine cx_seq' fun K3 hK3 => ?_
 refine cr fun K4 hK4 => ?_
 refine s0 (rd_move' rfl) ?_
 refine s0 (rd_len' rfl Try.underlying39) ?_
 refine s0 (rd_move' rfl) ?_
 refine nk hK4 ?_
 refine cx_block' ?_
 obtain ⟨v9, hy1, hp⟩ := bind_some hp
 refine tx_nilrow' Kf 38 ?_
 refine tx_nilrow' (Ki .i64) 3 ?_
 refine cx_loopg' (F := laws_gFlat_l1 a2 a0 a1) (G := fun k R v => laws_gFlat_l1s a2 a0 a1 k R v.1 v.2.1 v.2.2.1 v.2.2.2) (x := ([], [], true, 0)) (gh := ((none, 0, 0), (none, 0, 0))) (fun (v4 : (List Nat) × (List Int) × Bool × Int) (w4 : Gs × Gs) => (⟨45, [], [(0, (Vi a0)), (1, (Vb a1)), (6, (Vl (Vs w4.1))), (7, (Vl (Vs w4.2))), (8, (Vb v4.2.2.1)), (11, (Sl (Kl Kf) a2)), (12, (Vi (a2.length : Int))), (13, (Vi v4.2.2.2))], [(Rw Kf 38 (Vs w4.1) v4.1), (Rw (Ki .i64) 3 (Vs w4.2) v4.2.1)]⟩ : St)) (fun (v9 : (List Nat) × (List Int) × Bool) => Zg E (Exit.exit 0) (fun (w9 : Gs × Gs) => (⟨45, [], [(6, (Vl (Vs w9.1))), (7, (Vl (Vs w9.2))), (8, (Vb v9.2.2))], [(Rw Kf 38 (Vs w9.1) v9.1), (Rw (Ki .i64) 3 (Vs w9.2) v9.2.1)]⟩ : St))) (fun _ => rfl) (fun _ _ => rfl) ?_ hy1 (tx_to' rfl [1, 0] (sub_cons rfl (sub_cons rfl (sub_cons rfl (sub_cons rfl (sub_cons rfl (sub_cons rfl (sub_cons rfl (sub_cons rfl sub_nil)))))))) (by decide) (pick_cons rfl (pick_cons rfl pick_nil))) ?_
 ·clear hp hy1
  clear v9
  intro k rec1 KY1 ih1
  rintro ⟨x9, x10, x11, x12⟩ ⟨g905, g906⟩ y1 hp
  replace hp : laws_gFlat_l1s a2 a0 a1 k rec1 x9 x10 x11 x12 = some y1 := hp
  unfold laws_gFlat_l1s at hp
  refine cr fun K14 hK14 => ?_
  refine s0 (rd_bin' rfl rfl eg_int ru_lss) ?_
  refine nk hK14 ?_
  refine cx_seq' fun K15 hK15 => ?_
  refine cx_cond' rfl (fun h6 => ?_) (fun h6 => ?_)
  ·replace hp := (br_t h6).symm.trans hp
   refine cx_skip' ?_
   show TX E K15 _
   refine tx_k' hK15 ?_
   refine cx_join' (fun (v7 : (List Nat) × (List Int) × Bool × Gs × Gs) => (⟨45, [], [(0, (Vi a0)), (1, (Vb a1)), (6, (Vl (Vs v7.2.2.2.1))), (7, (Vl (Vs v7.2.2.2.2))), (8, (Vb v7.2.2.1)), (11, (Sl (Kl Kf) a2)), (12, (Vi (a2.length : Int))), (13, (Vi x12))], [(Rw Kf 38 (Vs v7.2.2.2.1) v7.1), (Rw (Ki .i64) 3 (Vs v7.2.2.2.2) v7.2.1)]⟩ : St)) (fun (v7 : (List Nat) × (List Int) × Bool × Gs × Gs) => laws_gFlat_j6 k rec1 x12 v7.1 v7.2.1 v7.2.2.1 = some y1) ?_ ?_
   ·rintro ⟨x6, x7, x8, g903, g904⟩ hp
    replace hp : laws_gFlat_j6 k rec1 x12 x6 x7 x8 = some y1 := hp
    unfold laws_gFlat_j6 at hp
    refine cx_region' ?_
    refine s0 (rd_bin' rfl rfl eg_int ru_add) ?_
    refine s0 (rd_move' rfl) ?_
    refine sx_nil' ?_
    show TX E (KY1 _) _
    exact tx_pick' [0, 1] (sub_cons rfl (sub_cons rfl (sub_cons rfl (sub_cons rfl (sub_cons rfl (sub_cons rfl (sub_cons rfl (sub_cons rfl sub_nil)))))))) (by decide) (pick_cons rfl (pick_cons rfl pick_nil)) (ih1 (x6, x7, x8, (iadd .i64 x12 1)) (g903, g904) _ hp)
   intro K16 hK16
   refine cx_block' ?_
   refine cr fun K17 hK17 => ?_
   obtain ⟨r15, hr15, hp⟩ := bind_some hp
   refine s0 (rd_at' (K := (Kl Kf)) rfl rfl hr15 Try.underlying39 info22) ?_
   refine s0 (rd_load_pt' rfl rfl flat22) ?_
   refine s0 (rd_assign' rfl) ?_
   refine nk hK17 ?_
   refine cr fun K18 hK18 => ?_
   refine s0 (rd_move' rfl) ?_
   refine s0 (rd_move' rfl) ?_
   refine sx_cutn' 13 (fun (v8 : Bool) => (⟨45, [], [(0, (Vi a0)), (1, (Vb a1)), (6, (Vl (Vs g905))), (7, (Vl (Vs g906))), (10, (Sl Kf r15)), (11, (Sl (Kl Kf) a2)), (12, (Vi (a2.length : Int))), (13, (Vi x12)), (31, (Vb v8))], [(Rw Kf 38 (Vs g905) x9), (Rw (Ki .i64) 3 (Vs g906) x10)]⟩ : St)) (fun (v8 : Bool) => laws_gFlat_j7 k x9 r15 a1 x10 rec1 x12 v8 = some y1) ?_ ?_
   ·rintro x13 hp
    replace hp : laws_gFlat_j7 k x9 r15 a1 x10 rec1 x12 x13 = some y1 := hp
    unfold laws_gFlat_j7 at hp
    refine s0 (rd_assign' rfl) ?_
    refine nk hK18 ?_
    refine cr fun K21 hK21 => ?_
    refine s0 (rd_move' rfl) ?_
    refine s0 (rd_move' rfl) ?_
    obtain ⟨r34, hr34, hp⟩ := bind_some hp
    refine sx_ox' (ox_append' (K := Kf) (i := 0) (xs := x9) (ys := r15) rfl rfl rfl (sr_sl' rfl Try.underlying22) hr34 Try.underlying22 info38 rfl rfl rfl (H' := [(Rw (Ki .i64) 3 (Vs g906) x10)]) rfl) (wt_none' rfl) fun g34 => ?_
    refine s0 (rd_assign' rfl) ?_
    refine nk hK21 ?_
    refine cr fun K22 hK22 => ?_
    refine s0 (rd_move' rfl) ?_
    refine nk hK22 ?_
    refine cx_cond' rfl (fun h9 => ?_) (fun h9 => ?_)
    ·replace hp := (br_t h9).symm.trans hp
     refine cx_region' ?_
     refine s0 (rd_move' rfl) ?_
     refine s0 (rd_move' rfl) ?_
     refine s0 (rd_lenr' (i := 0) rfl rfl rfl Try.underlying22) ?_
     refine sx_ox' (ox_rowlit' (K := (Ki .i64)) (xs := [(r34.length : Int)]) (qs := [(0, [(Vi (r34.length : Int))])]) ⟨rfl, ⟨_, rfl, (lv_vl rfl rfl)⟩, trivial⟩ Try.underlying34 info3 rfl rfl rfl rfl rfl (by kernel_rfl) rfl rfl rfl) (wt_none' rfl) fun g39 => ?_
     obtain ⟨r40, hr40, hp⟩ := bind_some hp
     refine sx_ox' (ox_append' (K := (Ki .i64)) (i := 2) (xs := x10) (ys := ([(r34.length : Int)])) rfl rfl rfl (sr_row' (j := 0) rfl rfl rfl Try.underlying34) hr40 Try.underlying34 info3 rfl rfl rfl (H' := [(Rw (Ki .i64) 3 (Vs g39) ([(r34.length : Int)])), (Rw Kf 38 (Vs g34) r34)]) rfl) (wt_none' rfl) fun g40 => ?_
     refine s0 (rd_assign' rfl) ?_
     refine sx_nil' ?_
     show TX E K16 _
     exact tx_pick' [2, 0] (sub_cons rfl (sub_cons rfl (sub_cons rfl (sub_cons rfl (sub_cons rfl (sub_cons rfl (sub_cons rfl (sub_cons rfl sub_nil)))))))) (by decide) (pick_cons rfl (pick_cons rfl pick_nil)) (hK16 (r34, r40, x13, g34, g40) hp)
    replace hp := (br_f h9).symm.trans hp
    refine cx_skip' ?_
    show TX E K16 _
    exact tx_pick' [0, 1] (sub_cons rfl (sub_cons rfl (sub_cons rfl (sub_cons rfl (sub_cons rfl (sub_cons rfl (sub_cons rfl (sub_cons rfl sub_nil)))))))) (by decide) (pick_cons rfl (pick_cons rfl pick_nil)) (hK16 (r34, x10, x13, g34, g906) hp)
   intro K23 hK23
   rcases br_cases hp with ⟨h10, hp⟩ | ⟨h10, hp⟩
   ·refine sx_rd' (rd_move' rfl) rfl rfl (wt_is' (wt_guard' rfl rfl rfl) (beq_tt h10)) ?_
    refine sx_rd' (rd_len' rfl Try.underlying22) rfl rfl (wt_is' (wt_guard' rfl rfl rfl) (beq_tt h10)) ?_
    refine sx_rd' (rd_move' rfl) rfl rfl (wt_is' (wt_guard' rfl rfl rfl) (beq_tt h10)) ?_
    obtain ⟨r22, hr22, hp⟩ := bind_some hp
    refine sx_ox' (ox_calln' (ent_fn' Try.func11 isn11 rfl rfl) (spec_Stride_sim _ hr22 : Sx.Fn Try.prog 11 [(Vi a0)] [] (fun x : Unit => (Vi r22)) (fun x => [])) (Hn := fun x : Unit => [(Rw Kf 38 (Vs g905) x9), (Rw (Ki .i64) 3 (Vs g906) x10)]) (fun _ => rfl) rfl rfl) (wt_is' (wt_guard' rfl rfl rfl) (beq_tt h10)) fun ⟨⟩ => ?_
    refine sx_rd' (rd_bin' rfl rfl eg_int ru_eql) rfl rfl (wt_is' (wt_guard' rfl rfl rfl) (beq_tt h10)) ?_
    refine sx_rd' (rd_move' rfl) rfl rfl (wt_is' (wt_guard' rfl rfl rfl) (beq_tt h10)) ?_
    refine sx_cutn' 7 (fun (v6 : Bool) => (⟨45, [], [(0, (Vi a0)), (1, (Vb a1)), (6, (Vl (Vs g905))), (7, (Vl (Vs g906))), (10, (Sl Kf r15)), (11, (Sl (Kl Kf) a2)), (12, (Vi (a2.length : Int))), (13, (Vi x12)), (31, (Vb v6))], [(Rw Kf 38 (Vs g905) x9), (Rw (Ki .i64) 3 (Vs g906) x10)]⟩ : St)) (fun (v6 : Bool) => laws_gFlat_j5 k x9 r15 a1 x10 rec1 x12 v6 = some y1) ?_ ?_
    ·rintro x5 hp
     replace hp : laws_gFlat_j5 k x9 r15 a1 x10 rec1 x12 x5 = some y1 := hp
     unfold laws_gFlat_j5 at hp
     refine sx_nil' ?_
     show TX E K23 _
     exact tx_pick' [0, 1] (sub_cons rfl (sub_cons rfl (sub_cons rfl (sub_cons rfl (sub_cons rfl (sub_cons rfl (sub_cons rfl (sub_cons rfl (sub_cons rfl sub_nil))))))))) (by decide) (pick_cons rfl (pick_cons rfl pick_nil)) (hK23 x5 hp)
    intro K20 hK20
    rcases br_cases hp with ⟨h7, hp⟩ | ⟨h7, hp⟩
    ·refine sx_skip' rfl rfl (wt_is' (wt_guard' rfl rfl rfl) (beq_tf h7)) ?_
     refine sx_skip' rfl rfl (wt_is' (wt_guard' rfl rfl rfl) (beq_tf h7)) ?_
     refine sx_skip' rfl rfl (wt_undef' rfl rfl rfl) ?_
     refine sx_skip' rfl rfl (wt_undef' rfl rfl rfl) ?_
     refine sx_skip' rfl rfl (wt_is' (wt_guard' rfl rfl rfl) (beq_tf h7)) ?_
     refine sx_rd' (rd_pick_true' rfl h7 rfl) rfl rfl (wt_is' (wt_guard' rfl rfl rfl) (beq_tt h10)) ?_
     refine s0 (rd_pick_true' rfl h10 rfl) ?_
     refine sx_nil' ?_
     show TX E K20 _
     exact tx_pick' [0, 1] (sub_cons rfl (sub_cons rfl (sub_cons rfl (sub_cons rfl (sub_cons rfl (sub_cons rfl (sub_cons rfl (sub_cons rfl (sub_cons rfl sub_nil))))))))) (by decide) (pick_cons rfl (pick_cons rfl pick_nil)) (hK20 true hp)
    refine sx_rd' (rd_move' rfl) rfl rfl (wt_is' (wt_guard' rfl rfl rfl) (beq_ff h7)) ?_
    refine sx_rd' (rd_move' rfl) rfl rfl (wt_is' (wt_guard' rfl rfl rfl) (beq_ff h7)) ?_
    refine sx_cutn' 5 (fun (v5 : Unit) => (⟨45, [], [(0, (Vi a0)), (1, (Vb a1)), (6, (Vl (Vs g905))), (7, (Vl (Vs g906))), (10, (Sl Kf r15)), (11, (Sl (Kl Kf) a2)), (12, (Vi (a2.length : Int))), (13, (Vi x12)), (31, (Vb false))], [(Rw Kf 38 (Vs g905) x9), (Rw (Ki .i64) 3 (Vs g906) x10)]⟩ : St)) (fun (v5 : Unit) => laws_gFlat_j4 k x9 r15 a1 x10 rec1 x12 = some y1) ?_ ?_
    ·rintro ⟨⟩ hp
     replace hp : laws_gFlat_j4 k x9 r15 a1 x10 rec1 x12 = some y1 := hp
     unfold laws_gFlat_j4 at hp
     refine sx_nil' ?_
     show TX E K20 _
     exact tx_pick' [0, 1] (sub_cons rfl (sub_cons rfl (sub_cons rfl (sub_cons rfl (sub_cons rfl (sub_cons rfl (sub_cons rfl (sub_cons rfl (sub_cons rfl sub_nil))))))))) (by decide) (pick_cons rfl (pick_cons rfl pick_nil)) (hK20 false hp)
    intro K19 hK19
    rcases br_cases hp with ⟨h8, hp⟩ | ⟨h8, hp⟩
    ·refine sx_rd' (rd_move' rfl) rfl rfl (wt_is' (wt_guard' rfl rfl rfl) (beq_tt h8)) ?_
     obtain ⟨z2, hz2, hp⟩ := bind_some hp
     refine sx_rd' (rd_binf' rfl rfl (bf_sl hz2 (fun _ _ _ _ => by kernel_rfl) nil_eql22_sl)) rfl rfl (wt_is' (wt_guard' rfl rfl rfl) (beq_tt h8)) ?_
     refine sx_rd' (rd_pick_true' rfl h8 rfl) rfl rfl (wt_is' (wt_guard' rfl rfl rfl) (beq_ff h7)) ?_
     refine sx_rd' (rd_pick_false' rfl h7 rfl) rfl rfl (wt_is' (wt_guard' rfl rfl rfl) (beq_tt h10)) ?_
     refine s0 (rd_pick_true' rfl h10 rfl) ?_
     refine sx_nil' ?_
     show TX E K19 _
     exact tx_pick' [0, 1] (sub_cons rfl (sub_cons rfl (sub_cons rfl (sub_cons rfl (sub_cons rfl (sub_cons rfl (sub_cons rfl (sub_cons rfl (sub_cons rfl sub_nil))))))))) (by decide) (pick_cons rfl (pick_cons rfl pick_nil)) (hK19 () hp)
    refine sx_skip' rfl rfl (wt_is' (wt_guard' rfl rfl rfl) (beq_ft h8)) ?_
    refine sx_skip' rfl rfl (wt_is' (wt_guard' rfl rfl rfl) (beq_ft h8)) ?_
    refine sx_rd' (rd_pick_false' rfl h8 rfl) rfl rfl (wt_is' (wt_guard' rfl rfl rfl) (beq_ff h7)) ?_
    refine sx_rd' (rd_pick_false' rfl h7 rfl) rfl rfl (wt_is' (wt_guard' rfl rfl rfl) (beq_tt h10)) ?_
    refine s0 (rd_pick_true' rfl h10 rfl) ?_
    refine sx_nil' ?_
    show TX E K19 _
    exact tx_pick' [0, 1] (sub_cons rfl (sub_cons rfl (sub_cons rfl (sub_cons rfl (sub_cons rfl (sub_cons rfl (sub_cons rfl (sub_cons rfl (sub_cons rfl sub_nil))))))))) (by decide) (pick_cons rfl (pick_cons rfl pick_nil)) (hK19 () hp)
   refine sx_skip' rfl rfl (wt_is' (wt_guard' rfl rfl rfl) (beq_ft h10)) ?_
   refine sx_skip' rfl rfl (wt_is' (wt_guard' rfl rfl rfl) (beq_ft h10)) ?_
   refine sx_skip' rfl rfl (wt_is' (wt_guard' rfl rfl rfl) (beq_ft h10)) ?_
   refine sx_skip' rfl rfl (wt_is' (wt_guard' rfl rfl rfl) (beq_ft h10)) ?_
   refine sx_skip' rfl rfl (wt_is' (wt_guard' rfl rfl rfl) (beq_ft h10)) ?_
   refine sx_skip' rfl rfl (wt_is' (wt_guard' rfl rfl rfl) (beq_ft h10)) ?_
   refine sx_skip' rfl rfl (wt_undef' rfl rfl rfl) ?_
   refine sx_skip' rfl rfl (wt_undef' rfl rfl rfl) ?_
   refine sx_skip' rfl rfl (wt_undef' rfl rfl rfl) ?_
   refine sx_skip' rfl rfl (wt_undef' rfl rfl rfl) ?_
   refine sx_skip' rfl rfl (wt_undef' rfl rfl rfl) ?_
   refine sx_skip' rfl rfl (wt_is' (wt_guard' rfl rfl rfl) (beq_ft h10)) ?_
   refine s0 (rd_pick_false' rfl h10 rfl) ?_
   refine sx_nil' ?_
   show TX E K23 _
   exact tx_pick' [0, 1] (sub_cons rfl (sub_cons rfl (sub_cons rfl (sub_cons rfl (sub_cons rfl (sub_cons rfl (sub_cons rfl (sub_cons rfl (sub_cons rfl sub_nil))))))))) (by decide) (pick_cons rfl (pick_cons rfl pick_nil)) (hK23 false hp)
  replace hp := (br_f h6).symm.trans hp
  refine cx_exit' ?_
  replace hp := Option.some.inj hp
  subst hp
  show TX E (Zg E (Exit.exit 0) _ (Exit.exit 0)) _
  exact tx_zend' (g905, g906) rfl [0, 1] (sub_cons rfl (sub_cons rfl (sub_cons rfl sub_nil))) (by decide) (pick_cons rfl (pick_cons rfl pick_nil))
 refine zg_out fun w9 => ?_
 show TX E K3 _
 refine tx_k' hK3 ?_
 refine cr fun K24 hK24 => ?_
 refine s0 (rd_move' rfl) ?_
 refine s0 (rd_move' rfl) ?_
 refine s0 (rd_move' rfl) ?_
 refine s0 (rd_assign' rfl) ?_
 refine s0 (rd_assign' rfl) ?_
 refine s0 (rd_assign' rfl) ?_
 refine nk hK24 ?_
 refine cx_retc' ?_
 replace hp := Option.some.inj hp
 subst hp
 refine tx_fz' (frz_row 0 [(6, (Vl (Vs w9.1)), (Sl Kf v9.1)), (42, (Vl (Vs w9.1)), (Sl Kf v9.1))] (K := Kf) (xs := v9.1) (by decide) rfl ⟨⟨rfl, frz_it⟩, ⟨rfl, frz_it⟩, trivial⟩ (H' := [(Rw (Ki .i64) 3 (Vs w9.2) v9.2.1)]) frzH_refl) ?_
 refine tx_fz' (frz_row 0 [(7, (Vl (Vs w9.2)), (Sl (Ki .i64) v9.2.1)), (43, (Vl (Vs w9.2)), (Sl (Ki .i64) v9.2.1))] (K := (Ki .i64)) (xs := v9.2.1) (by decide) rfl ⟨⟨rfl, frz_it⟩, ⟨rfl, frz_it⟩, trivial⟩ (H' := []) frzH_refl) ?_
 refine tx_pick' (L' := [(6, (Sl Kf v9.1)), (7, (Sl (Ki .i64) v9.2.1)), (8, (Vb v9.2.2))]) (H' := []) [] (sub_cons rfl (sub_cons rfl (sub_cons rfl sub_nil))) (by decide) pick_nil ?_
 exact tx_ret3' Try.results56 rfl () (rv_tmp' rfl) (rv_tmp' rfl) (rv_tmp' rfl) rfl (List.Sublist.refl _)

def laws_gFlats_j1 (k : Nat) (x2 : List Int) (a1 : Int) (r29 : List Nat) (rec1 : ((List Nat) × (List Int) × Bool × Int) → Option ((List Nat) × (List Int) × Bool)) (x4 : Int) (x5 : Bool) : Option ((List Nat) × (List Int) × Bool) :=
 (apd 8 x2 ([iadd .i64 a1 (r29.length : Int)])) >>= fun r40 =>
 rec1 (r29, r40, x5, (iadd .i64 x4 1))
def laws_gFlats_l1s (a2 : List (List (List Nat))) (a0 : Int) (a1 : Int) (k : Nat) (rec1 : ((List Nat) × (List Int) × Bool × Int) → Option ((List Nat) × (List Int) × Bool)) (x1 : List Nat) (x2 : List Int) (x3 : Bool) (x4 : Int) : Option ((List Nat) × (List Int) × Bool) :=
 br (decide (x4 < (a2.length : Int)))
  ((idx a2 x4) >>= fun r18 =>
  (laws_gFlat k a0 false r18) >>= fun r23 =>
  (apd 8 x1 r23.1) >>= fun r29 =>
  br x3
   (laws_gFlats_j1 k x2 a1 r29 rec1 x4 r23.2.2)
   (laws_gFlats_j1 k x2 a1 r29 rec1 x4 false))
  (some (x1, x2, x3))
def laws_gFlats_l1 (a2 : List (List (List Nat))) (a0 : Int) (a1 : Int) : Nat → ((List Nat) × (List Int) × Bool × Int) → Option ((List Nat) × (List Int) × Bool)
 | 0, _ => none
 | k + 1, v => laws_gFlats_l1s a2 a0 a1 k (laws_gFlats_l1 a2 a0 a1 k) v.1 v.2.1 v.2.2.1 v.2.2.2
def laws_gFlats (k : Nat) (a0 : Int) (a1 : Int) (a2 : List (List (List Nat))) : Option ((List Nat) × (List Int) × Bool) :=
 (laws_gFlats_l1 a2 a0 a1 k ([], [], true, 0)) >>= fun v3 =>
 some (v3.1, v3.2.1, v3.2.2)

theorem laws_gFlats_sim {k : Nat}  (a0 : Int) (a1 : Int) (a2 : List (List (List Nat))) {out : (List Nat) × (List Int) × Bool} (hp : laws_gFlats k a0 a1 a2 = some out) : Sx.Fn Try.prog 17 [(Vi a0), (Vi a1), (Sl (Kl (Kl Kf)) a2)] [] (fun w : Unit => (Tu [(Sl Kf out.1), (Sl (Ki .i64) out.2.1), (Vb out.2.2)])) (fun w => []) := by
 unfold laws_gFlats at hp
 refine fn_of Try.func17 rfl Try.ntmps17 rfl fun E hM => ?_
 refine cr fun K1 hK1 => ?_
 refine s0 (rd_assign' rfl) ?_
 refine s0 (rd_assign' rfl) ?_
 refine s0 (rd_assign' rfl) ?_
 refine nk hK1 ?_
 refine cr fun K2 hK2 => ?_
 refine s0 (rd_assign' rfl) ?_
 refine nk hK2 ?_
 refine cx_seq' fun K3 hK3 => ?_
 refine cr fun K4 hK4 => ?_
 refine s0 (rd_move' rfl) ?_
 refine s0 (rd_len' rfl Try.underlying29) ?_
 refine s0 (rd_move' rfl) ?_
 refine nk hK4 ?_
 refine cx_block' ?_
 obtain ⟨v3, hy1, hp⟩ := bind_some hp
 refine tx_nilrow' Kf 38 ?_
 refine tx_nilrow' (Ki .i64) 3 ?_
 refine cx_loopg' (F := laws_gFlats_l1 a2 a0 a1) (G := fun k R v => laws_gFlats_l1s a2 a0 a1 k R v.1 v.2.1 v.2.2.1 v.2.2.2) (x := ([], [], true, 0)) (gh := ((none, 0, 0), (none, 0, 0))) (fun (v1 : (List Nat) × (List Int) × Bool × Int) (w1 : Gs × Gs) => (⟨45, [], [(0, (Vi a0)), (1, (Vi a1)), (6, (Vl (Vs w1.1))), (7, (Vl (Vs w1.2))), (8, (Vb v1.2.2.1)), (14, (Sl (Kl (Kl Kf)) a2)), (15, (Vi (a2.length : Int))), (16, (Vi v1.2.2.2))], [(Rw Kf 38 (Vs w1.1) v1.1), (Rw (Ki .i64) 3 (Vs w1.2) v1.2.1)]⟩ : St)) (fun (v3 : (List Nat) × (List Int) × Bool) => Zg E (Exit.exit 0) (fun (w3 : Gs × Gs) => (⟨45, [], [(6, (Vl (Vs w3.1))), (7, (Vl (Vs w3.2))), (8, (Vb v3.2.2))], [(Rw Kf 38 (Vs w3.1) v3.1), (Rw (Ki .i64) 3 (Vs w3.2) v3.2.1)]⟩ : St))) (fun _ => rfl) (fun _ _ => rfl) ?_ hy1 (tx_to' rfl [1, 0] (sub_cons rfl (sub_cons rfl (sub_cons rfl (sub_cons rfl (sub_cons rfl (sub_cons rfl (sub_cons rfl (sub_cons rfl sub_nil)))))))) (by decide) (pick_cons rfl (pick_cons rfl pick_nil))) ?_
 ·clear hp hy1
  clear v3
  intro k rec1 KY1 ih1
  rintro ⟨x1, x2, x3, x4⟩ ⟨g901, g902⟩ y1 hp
  replace hp : laws_gFlats_l1s a2 a0 a1 k rec1 x1 x2 x3 x4 = some y1 := hp
  unfold laws_gFlats_l1s at hp
  refine cr fun K11 hK11 => ?_
  refine s0 (rd_bin' rfl rfl eg_int ru_lss) ?_
  refine nk hK11 ?_
  refine cx_seq' fun K12 hK12 => ?_
  refine cx_cond' rfl (fun h3 => ?_) (fun h3 => ?_)
  ·replace hp := (br_t h3).symm.trans hp
   refine cx_skip' ?_
   show TX E K12 _
   refine tx_k' hK12 ?_
   refine cx_seq' fun K13 hK13 => ?_
   refine cx_block' ?_
   refine cr fun K14 hK14 => ?_
   obtain ⟨r18, hr18, hp⟩ := bind_some hp
   refine s0 (rd_at' (K := (Kl (Kl Kf))) rfl rfl hr18 Try.underlying29 info39) ?_
   refine s0 (rd_load_pt' rfl rfl flat39) ?_
   refine s0 (rd_assign' rfl) ?_
   refine nk hK14 ?_
   refine cr fun K15 hK15 => ?_
   refine s0 (rd_move' rfl) ?_
   refine s0 (rd_move' rfl) ?_
   obtain ⟨r23, hr23, hp⟩ := bind_some hp
   refine sx_ox' (ox_calln' (ent_fn' Try.func56 isn56 rfl rfl) (laws_gFlat_sim _ _ _ hr23 : Sx.Fn Try.prog 56 [(Vi a0), (Vb false), (Sl (Kl Kf) r18)] [] (fun x : Unit => (Tu [(Sl Kf r23.1), (Sl (Ki .i64) r23.2.1), (Vb r23.2.2)])) (fun x => [])) (Hn := fun x : Unit => [(Rw Kf 38 (Vs g901) x1), (Rw (Ki .i64) 3 (Vs g902) x2)]) (fun _ => rfl) rfl rfl) (wt_none' rfl) fun ⟨⟩ => ?_
   refine s0 (rd_move' rfl) ?_
   refine s0 (rd_extract' rfl rfl) ?_
   refine s0 (rd_extract' rfl rfl) ?_
   refine s0 (rd_extract' rfl rfl) ?_
   refine s0 (rd_assign' rfl) ?_
   refine s0 (rd_assign' rfl) ?_
   refine s0 (rd_assign' rfl) ?_
   refine nk hK15 ?_
   refine cr fun K16 hK16 => ?_
   refine s0 (rd_move' rfl) ?_
   refine s0 (rd_move' rfl) ?_
   obtain ⟨r29, hr29, hp⟩ := bind_some hp
   refine sx_ox' (ox_append' (K := Kf) (i := 0) (xs := x1) (ys := r23.1) rfl rfl rfl (sr_sl' rfl Try.underlying22) hr29 Try.underlying22 info38 rfl rfl rfl (H' := [(Rw (Ki .i64) 3 (Vs g902) x2)]) rfl) (wt_none' rfl) fun g29 => ?_
   refine s0 (rd_move' rfl) ?_
   refine s0 (rd_move' rfl) ?_
   refine sx_cutn' 2 (fun (v2 : Bool) => (⟨45, [], [(0, (Vi a0)), (1, (Vi a1)), (7, (Vl (Vs g902))), (14, (Sl (Kl (Kl Kf)) a2)), (15, (Vi (a2.length : Int))), (16, (Vi x4)), (29, (Vl (Vs g29))), (33, (Vb v2))], [(Rw (Ki .i64) 3 (Vs g902) x2), (Rw Kf 38 (Vs g29) r29)]⟩ : St)) (fun (v2 : Bool) => laws_gFlats_j1 k x2 a1 r29 rec1 x4 v2 = some y1) ?_ ?_
   ·rintro x5 hp
    replace hp : laws_gFlats_j1 k x2 a1 r29 rec1 x4 x5 = some y1 := hp
    unfold laws_gFlats_j1 at hp
    refine s0 (rd_assign' rfl) ?_
    refine s0 (rd_assign' rfl) ?_
    refine nk hK16 ?_
    refine cx_region' ?_
    refine s0 (rd_move' rfl) ?_
    refine s0 (rd_move' rfl) ?_
    refine s0 (rd_move' rfl) ?_
    refine s0 (rd_lenr' (i := 1) rfl rfl rfl Try.underlying22) ?_
    refine s0 (rd_bin' rfl rfl eg_int ru_add) ?_
    refine sx_ox' (ox_rowlit' (K := (Ki .i64)) (xs := [iadd .i64 a1 (r29.length : Int)]) (qs := [(0, [(Vi (iadd .i64 a1 (r29.length : Int)))])]) ⟨rfl, ⟨_, rfl, (lv_vl rfl rfl)⟩, trivial⟩ Try.underlying34 info3 rfl rfl rfl rfl rfl (by kernel_rfl) rfl rfl rfl) (wt_none' rfl) fun g39 => ?_
    obtain ⟨r40, hr40, hp⟩ := bind_some hp
    refine sx_ox' (ox_append' (K := (Ki .i64)) (i := 1) (xs := x2) (ys := ([iadd .i64 a1 (r29.length : Int)])) rfl rfl rfl (sr_row' (j := 0) rfl rfl rfl Try.underlying34) hr40 Try.underlying34 info3 rfl rfl rfl (H' := [(Rw (Ki .i64) 3 (Vs g39) ([iadd .i64 a1 (r29.length : Int)])), (Rw Kf 38 (Vs g29) r29)]) rfl) (wt_none' rfl) fun g40 => ?_
    refine s0 (rd_assign' rfl) ?_
    refine nk hK13 ?_
    refine cx_region' ?_
    refine s0 (rd_bin' rfl rfl eg_int ru_add) ?_
    refine s0 (rd_move' rfl) ?_
    refine sx_nil' ?_
    show TX E (KY1 _) _
    exact tx_pick' [2, 0] (sub_cons rfl (sub_cons rfl (sub_cons rfl (sub_cons rfl (sub_cons rfl (sub_cons rfl (sub_cons rfl (sub_cons rfl sub_nil)))))))) (by decide) (pick_cons rfl (pick_cons rfl pick_nil)) (ih1 (r29, r40, x5, (iadd .i64 x4 1)) (g29, g40) _ hp)
   intro K17 hK17
   rcases br_cases hp with ⟨h4, hp⟩ | ⟨h4, hp⟩
   ·refine sx_rd' (rd_move' rfl) rfl rfl (wt_is' (wt_guard' rfl rfl rfl) (beq_tt h4)) ?_
    refine s0 (rd_pick_true' rfl h4 rfl) ?_
    refine sx_nil' ?_
    show TX E K17 _
    exact tx_pick' [1, 0] (sub_cons rfl (sub_cons rfl (sub_cons rfl (sub_cons rfl (sub_cons rfl (sub_cons rfl (sub_cons rfl (sub_cons rfl sub_nil)))))))) (by decide) (pick_cons rfl (pick_cons rfl pick_nil)) (hK17 r23.2.2 hp)
   refine sx_skip' rfl rfl (wt_is' (wt_guard' rfl rfl rfl) (beq_ft h4)) ?_
   refine s0 (rd_pick_false' rfl h4 rfl) ?_
   refine sx_nil' ?_
   show TX E K17 _
   exact tx_pick' [1, 0] (sub_cons rfl (sub_cons rfl (sub_cons rfl (sub_cons rfl (sub_cons rfl (sub_cons rfl (sub_cons rfl (sub_cons rfl sub_nil)))))))) (by decide) (pick_cons rfl (pick_cons rfl pick_nil)) (hK17 false hp)
  replace hp := (br_f h3).symm.trans hp
  refine cx_exit' ?_
  replace hp := Option.some.inj hp
  subst hp
  show TX E (Zg E (Exit.exit 0) _ (Exit.exit 0)) _
  exact tx_zend' (g901, g902) rfl [0, 1] (sub_cons rfl (sub_cons rfl (sub_cons rfl sub_nil))) (by decide) (pick_cons rfl (pick_cons rfl pick_nil))
 refine zg_out fun w3 => ?_
 show TX E K3 _
 refine tx_k' hK3 ?_
 refine cr fun K18 hK18 => ?_
 refine s0 (rd_move' rfl) ?_
 refine s0 (rd_move' rfl) ?_
 refine s0 (rd_move' rfl) ?_
 refine s0 (rd_assign' rfl) ?_
 refine s0 (rd_assign' rfl) ?_
 refine s0 (rd_assign' rfl) ?_
 refine nk hK18 ?_
 refine cx_retc' ?_
 replace hp := Option.some.inj hp
 subst hp
 refine tx_fz' (frz_row 0 [(6, (Vl (Vs w3.1)), (Sl Kf v3.1)), (42, (Vl (Vs w3.1)), (Sl Kf v3.1))] (K := Kf) (xs := v3.1) (by decide) rfl ⟨⟨rfl, frz_it⟩, ⟨rfl, frz_it⟩, trivial⟩ (H' := [(Rw (Ki .i64) 3 (Vs w3.2) v3.2.1)]) frzH_refl) ?_
 refine tx_fz' (frz_row 0 [(7, (Vl (Vs w3.2)), (Sl (Ki .i64) v3.2.1)), (43, (Vl (Vs w3.2)), (Sl (Ki .i64) v3.2.1))] (K := (Ki .i64)) (xs := v3.2.1) (by decide) rfl ⟨⟨rfl, frz_it⟩, ⟨rfl, frz_it⟩, trivial⟩ (H' := []) frzH_refl) ?_
 refine tx_pick' (L' := [(6, (Sl Kf v3.1)), (7, (Sl (Ki .i64) v3.2.1)), (8, (Vb v3.2.2))]) (H' := []) [] (sub_cons rfl (sub_cons rfl (sub_cons rfl sub_nil))) (by decide) pick_nil ?_
 exact tx_ret3' Try.results17 rfl () (rv_tmp' rfl) (rv_tmp' rfl) (rv_tmp' rfl) rfl (List.Sublist.refl _)

def impl_floats (k : Nat) (a0 : List Nat) : Option ((List Nat)) :=
 (apd 8 [] a0) >>= fun r4 =>
 some r4

theorem impl_floats_sim {k : Nat}  (a0 : List Nat) {out : (List Nat)} (hp : impl_floats k a0 = some out) : Sx.Fn Try.prog 50 [(Sl Kf a0)] [] (fun w : Unit => (Sl Kf out)) (fun w => []) := by
 unfold impl_floats at hp
 refine fn_of Try.func50 rfl Try.ntmps50 rfl fun E hM => ?_
 refine cr fun K1 hK1 => ?_
 refine s0 (rd_assign' rfl) ?_
 refine nk hK1 ?_
 refine cr fun K2 hK2 => ?_
 refine s0 (rd_move' rfl) ?_
 refine tx_nilrow' Kf 38 ?_
 obtain ⟨r4, hr4, hp⟩ := bind_some hp
 refine sx_ox' (ox_append' (K := Kf) (i := 0) (xs := []) (ys := a0) rfl rfl rfl (sr_sl' rfl Try.underlying22) hr4 Try.underlying22 info38 rfl rfl rfl (H' := []) rfl) (wt_none' rfl) fun g4 => ?_
 refine s0 (rd_assign' rfl) ?_
 refine nk hK2 ?_
 refine cx_retc' ?_
 replace hp := Option.some.inj hp
 subst hp
 refine tx_fz' (frz_row 0 [(2, (Vl (Vs g4)), (Sl Kf r4)), (4, (Vl (Vs g4)), (Sl Kf r4))] (K := Kf) (xs := r4) (by decide) rfl ⟨⟨rfl, frz_it⟩, ⟨rfl, frz_it⟩, trivial⟩ (H' := []) frzH_refl) ?_
 refine tx_pick' (L' := [(2, (Sl Kf r4))]) (H' := []) [] (sub_cons rfl sub_nil) (by decide) pick_nil ?_
 exact tx_ret1' Try.results50 rfl () (rv_tmp' rfl) (List.Sublist.refl _)

def impl_coords1_l1s (a0 : List (List Nat)) (k : Nat) (rec1 : ((List (List Nat)) × Int) → Option ((List (List Nat)))) (x1 : List (List Nat)) (x2 : Int) : Option ((List (List Nat))) :=
 br (decide (x2 < (a0.length : Int)))
  ((idx a0 x2) >>= fun r10 =>
  (impl_floats k r10) >>= fun r14 =>
  (apd 24 x1 ([r14])) >>= fun r16 =>
  rec1 (r16, (iadd .i64 x2 1)))
  (some x1)
def impl_coords1_l1 (a0 : List (List Nat)) : Nat → ((List (List Nat)) × Int) → Option ((List (List Nat)))
 | 0, _ => none
 | k + 1, v => impl_coords1_l1s a0 k (impl_coords1_l1 a0 k) v.1 v.2
def impl_coords1 (k : Nat) (a0 : List (List Nat)) : Option ((List (List Nat))) :=
 (impl_coords1_l1 a0 k ([], 0)) >>= fun v2 =>
 some v2

theorem impl_coords1_sim {k : Nat}  (a0 : List (List Nat)) {out : (List (List Nat))} (hp : impl_coords1 k a0 = some out) : Sx.Fn Try.prog 99 [(Sl (Kl Kf) a0)] [] (fun w : Unit => (Sl (Kl Kf) out)) (fun w => []) := by
 unfold impl_coords1 at hp
 refine fn_of Try.func99 rfl Try.ntmps99 rfl fun E hM => ?_
 refine cr fun K1 hK1 => ?_
 refine s0 (rd_assign' rfl) ?_
 refine nk hK1 ?_
 refine cr fun K2 hK2 => ?_
 refine s0 (rd_assign' rfl) ?_
 refine nk hK2 ?_
 refine cx_seq' fun K3 hK3 => ?_
 refine cr fun K4 hK4 => ?_
 refine s0 (rd_move' rfl) ?_
 refine s0 (rd_len' rfl Try.underlying39) ?_
 refine s0 (rd_move' rfl) ?_
 refine nk hK4 ?_
 refine cx_block' ?_
 obtain ⟨v2, hy1, hp⟩ := bind_some hp
 refine tx_nilrow' (Kl Kf) 132 ?_
 refine cx_loopg' (F := impl_coords1_l1 a0) (G := fun k R v => impl_coords1_l1s a0 k R v.1 v.2) (x := ([], 0)) (gh := (none, 0, 0)) (fun (v1 : (List (List Nat)) × Int) (w1 : Gs) => (⟨19, [], [(3, (Vl (Vs w1))), (6, (Sl (Kl Kf) a0)), (7, (Vi (a0.length : Int))), (8, (Vi v1.2))], [(Rw (Kl Kf) 132 (Vs w1) v1.1)]⟩ : St)) (fun (v2 : (List (List Nat))) => Zg E (Exit.exit 0) (fun (w2 : Gs) => (⟨19, [], [(3, (Vl (Vs w2)))], [(Rw (Kl Kf) 132 (Vs w2) v2)]⟩ : St))) (fun _ => rfl) (fun _ _ => rfl) ?_ hy1 (tx_to' rfl [0] (sub_cons rfl (sub_cons rfl (sub_cons rfl (sub_cons rfl sub_nil)))) (by decide) (pick_cons rfl pick_nil)) ?_
 ·clear hp hy1
  clear v2
  intro k rec1 KY1 ih1
  rintro ⟨x1, x2⟩ g901 y1 hp
  replace hp : impl_coords1_l1s a0 k rec1 x1 x2 = some y1 := hp
  unfold impl_coords1_l1s at hp
  refine cr fun K9 hK9 => ?_
  refine s0 (rd_bin' rfl rfl eg_int ru_lss) ?_
  refine nk hK9 ?_
  refine cx_seq' fun K10 hK10 => ?_
  refine cx_cond' rfl (fun h3 => ?_) (fun h3 => ?_)
  ·replace hp := (br_t h3).symm.trans hp
   refine cx_skip' ?_
   show TX E K10 _
   refine tx_k' hK10 ?_
   refine cx_seq' fun K11 hK11 => ?_
   refine cx_block' ?_
   refine cr fun K12 hK12 => ?_
   obtain ⟨r10, hr10, hp⟩ := bind_some hp
   refine s0 (rd_at' (K := (Kl Kf)) rfl rfl hr10 Try.underlying39 info22) ?_
   refine s0 (rd_load_pt' rfl rfl flat22) ?_
   refine s0 (rd_assign' rfl) ?_
   refine nk hK12 ?_
   refine cx_region' ?_
   refine s0 (rd_move' rfl) ?_
   refine s0 (rd_move' rfl) ?_
   obtain ⟨r14, hr14, hp⟩ := bind_some hp
   refine sx_ox' (ox_calln' (ent_fn' Try.func50 isn50 rfl rfl) (impl_floats_sim _ hr14 : Sx.Fn Try.prog 50 [(Sl Kf r10)] [] (fun x : Unit => (Sl Kf r14)) (fun x => [])) (Hn := fun x : Unit => [(Rw (Kl Kf) 132 (Vs g901) x1)]) (fun _ => rfl) rfl rfl) (wt_none' rfl) fun ⟨⟩ => ?_
   refine sx_ox' (ox_rowlit' (K := (Kl Kf)) (xs := [r14]) (qs := [(0, [(Sl Kf r14)])]) ⟨rfl, ⟨_, rfl, (lv_sl _ _)⟩, trivial⟩ Try.underlying152 info132 rfl rfl rfl rfl rfl (by kernel_rfl) rfl rfl rfl) (wt_none' rfl) fun g15 => ?_
   obtain ⟨r16, hr16, hp⟩ := bind_some hp
   refine sx_ox' (ox_append' (K := (Kl Kf)) (i := 1) (xs := x1) (ys := ([r14])) rfl rfl rfl (sr_row' (j := 0) rfl rfl rfl Try.underlying152) hr16 Try.underlying152 info132 rfl rfl rfl (H' := [(Rw (Kl Kf) 132 (Vs g15) ([r14]))]) rfl) (wt_none' rfl) fun g16 => ?_
   refine s0 (rd_assign' rfl) ?_
   refine nk hK11 ?_
   refine cx_region' ?_
   refine s0 (rd_bin' rfl rfl eg_int ru_add) ?_
   refine s0 (rd_move' rfl) ?_
   refine sx_nil' ?_
   show TX E (KY1 _) _
   exact tx_pick' [0] (sub_cons rfl (sub_cons rfl (sub_cons rfl (sub_cons rfl sub_nil)))) (by decide) (pick_cons rfl pick_nil) (ih1 (r16, (iadd .i64 x2 1)) g16 _ hp)
  replace hp := (br_f h3).symm.trans hp
  refine cx_exit' ?_
  replace hp := Option.some.inj hp
  subst hp
  show TX E (Zg E (Exit.exit 0) _ (Exit.exit 0)) _
  exact tx_zend' g901 rfl [0] (sub_cons rfl sub_nil) (by decide) (pick_cons rfl pick_nil)
 refine zg_out fun w2 => ?_
 show TX E K3 _
 refine tx_k' hK3 ?_
 refine cr fun K13 hK13 => ?_
 refine s0 (rd_move' rfl) ?_
 refine s0 (rd_assign' rfl) ?_
 refine nk hK13 ?_
 refine cx_retc' ?_
 replace hp := Option.some.inj hp
 subst hp
 refine tx_fz' (frz_row 0 [(3, (Vl (Vs w2)), (Sl (Kl Kf) v2)), (18, (Vl (Vs w2)), (Sl (Kl Kf) v2)), (2, (Vl (Vs w2)), (Sl (Kl Kf) v2))] (K := (Kl Kf)) (xs := v2) (by decide) rfl ⟨⟨rfl, frz_it⟩, ⟨rfl, frz_it⟩, ⟨rfl, frz_it⟩, trivial⟩ (H' := []) frzH_refl) ?_
 refine tx_pick' (L' := [(2, (Sl (Kl Kf) v2))]) (H' := []) [] (sub_cons rfl sub_nil) (by decide) pick_nil ?_
 exact tx_ret1' Try.results99 rfl () (rv_tmp' rfl) (List.Sublist.refl _)

def impl_coords2_l1s (a0 : List (List (List Nat))) (k : Nat) (rec1 : ((List (List (List Nat))) × Int) → Option ((List (List (List Nat))))) (x1 : List (List (List Nat))) (x2 : Int) : Option ((List (List (List Nat)))) :=
 br (decide (x2 < (a0.length : Int)))
  ((idx a0 x2) >>= fun r10 =>
  (impl_coords1 k r10) >>= fun r14 =>
  (apd 24 x1 ([r14])) >>= fun r16 =>
  rec1 (r16, (iadd .i64 x2 1)))
  (some x1)
def impl_coords2_l1 (a0 : List (List (List Nat))) : Nat → ((List (List (List Nat))) × Int) → Option ((List (List (List Nat))))
 | 0, _ => none
 | k + 1, v => impl_coords2_l1s a0 k (impl_coords2_l1 a0 k) v.1 v.2
def impl_coords2 (k : Nat) (a0 : List (List (List Nat))) : Option ((List (List (List Nat)))) :=
 (impl_coords2_l1 a0 k ([], 0)) >>= fun v2 =>
 some v2

theorem impl_coords2_sim {k : Nat}  (a0 : List (List (List Nat))) {out : (List (List (List Nat)))} (hp : impl_coords2 k a0 = some out) : Sx.Fn Try.prog 59 [(Sl (Kl (Kl Kf)) a0)] [] (fun w : Gs => (Vl (Vs w))) (fun w => [(Rw (Kl (Kl Kf)) 152 (Vs w) out)]) := by
 unfold impl_coords2 at hp
 refine fn_of Try.func59 rfl Try.ntmps59 rfl fun E hM => ?_
 refine cr fun K1 hK1 => ?_
 refine s0 (rd_assign' rfl) ?_
 refine nk hK1 ?_
 refine cr fun K2 hK2 => ?_
 refine s0 (rd_assign' rfl) ?_
 refine nk hK2 ?_
 refine cx_seq' fun K3 hK3 => ?_
 refine cr fun K4 hK4 => ?_
 refine s0 (rd_move' rfl) ?_
 refine s0 (rd_len' rfl Try.underlying29) ?_
 refine s0 (rd_move' rfl) ?_
 refine nk hK4 ?_
 refine cx_block' ?_
 obtain ⟨v2, hy1, hp⟩ := bind_some hp
 refine tx_nilrow' (Kl (Kl Kf)) 152 ?_
 refine cx_loopg' (F := impl_coords2_l1 a0) (G := fun k R v => impl_coords2_l1s a0 k R v.1 v.2) (x := ([], 0)) (gh := (none, 0, 0)) (fun (v1 : (List (List (List Nat))) × Int) (w1 : Gs) => (⟨19, [], [(3, (Vl (Vs w1))), (6, (Sl (Kl (Kl Kf)) a0)), (7, (Vi (a0.length : Int))), (8, (Vi v1.2))], [(Rw (Kl (Kl Kf)) 152 (Vs w1) v1.1)]⟩ : St)) (fun (v2 : (List (List (List Nat)))) => Zg E (Exit.exit 0) (fun (w2 : Gs) => (⟨19, [], [(3, (Vl (Vs w2)))], [(Rw (Kl (Kl Kf)) 152 (Vs w2) v2)]⟩ : St))) (fun _ => rfl) (fun _ _ => rfl) ?_ hy1 (tx_to' rfl [0] (sub_cons rfl (sub_cons rfl (sub_cons rfl (sub_cons rfl sub_nil)))) (by decide) (pick_cons rfl pick_nil)) ?_
 ·clear hp hy1
  clear v2
  intro k rec1 KY1 ih1
  rintro ⟨x1, x2⟩ g901 y1 hp
  replace hp : impl_coords2_l1s a0 k rec1 x1 x2 = some y1 := hp
  unfold impl_coords2_l1s at hp
  refine cr fun K9 hK9 => ?_
  refine s0 (rd_bin' rfl rfl eg_int ru_lss) ?_
  refine nk hK9 ?_
  refine cx_seq' fun K10 hK10 => ?_
  refine cx_cond' rfl (fun h3 => ?_) (fun h3 => ?_)
  ·replace hp := (br_t h3).symm.trans hp
   refine cx_skip' ?_
   show TX E K10 _
   refine tx_k' hK10 ?_
   refine cx_seq' fun K11 hK11 => ?_
   refine cx_block' ?_
   refine cr fun K12 hK12 => ?_
   obtain ⟨r10, hr10, hp⟩ := bind_some hp
   refine s0 (rd_at' (K := (Kl (Kl Kf))) rfl rfl hr10 Try.underlying29 info39) ?_
   refine s0 (rd_load_pt' rfl rfl flat39) ?_
   refine s0 (rd_assign' rfl) ?_
   refine nk hK12 ?_
   refine cx_region' ?_
   refine s0 (rd_move' rfl) ?_
   refine s0 (rd_move' rfl) ?_
   obtain ⟨r14, hr14, hp⟩ := bind_some hp
   refine sx_ox' (ox_calln' (ent_fn' Try.func99 isn99 rfl rfl) (impl_coords1_sim _ hr14 : Sx.Fn Try.prog 99 [(Sl (Kl Kf) r10)] [] (fun x : Unit => (Sl (Kl Kf) r14)) (fun x => [])) (Hn := fun x : Unit => [(Rw (Kl (Kl Kf)) 152 (Vs g901) x1)]) (fun _ => rfl) rfl rfl) (wt_none' rfl) fun ⟨⟩ => ?_
   refine sx_ox' (ox_rowlit' (K := (Kl (Kl Kf))) (xs := [r14]) (qs := [(0, [(Sl (Kl Kf) r14)])]) ⟨rfl, ⟨_, rfl, (lv_sl _ _)⟩, trivial⟩ Try.underlying116 info152 rfl rfl rfl rfl rfl (by kernel_rfl) rfl rfl rfl) (wt_none' rfl) fun g15 => ?_
   obtain ⟨r16, hr16, hp⟩ := bind_some hp
   refine sx_ox' (ox_append' (K := (Kl (Kl Kf))) (i := 1) (xs := x1) (ys := ([r14])) rfl rfl rfl (sr_row' (j := 0) rfl rfl rfl Try.underlying116) hr16 Try.underlying116 info152 rfl rfl rfl (H' := [(Rw (Kl (Kl Kf)) 152 (Vs g15) ([r14]))]) rfl) (wt_none' rfl) fun g16 => ?_
   refine s0 (rd_assign' rfl) ?_
   refine nk hK11 ?_
   refine cx_region' ?_
   refine s0 (rd_bin' rfl rfl eg_int ru_add) ?_
   refine s0 (rd_move' rfl) ?_
   refine sx_nil' ?_
   show TX E (KY1 _) _
   exact tx_pick' [0] (sub_cons rfl (sub_cons rfl (sub_cons rfl (sub_cons rfl sub_nil)))) (by decide) (pick_cons rfl pick_nil) (ih1 (r16, (iadd .i64 x2 1)) g16 _ hp)
  replace hp := (br_f h3).symm.trans hp
  refine cx_exit' ?_
  replace hp := Option.some.inj hp
  subst hp
  show TX E (Zg E (Exit.exit 0) _ (Exit.exit 0)) _
  exact tx_zend' g901 rfl [0] (sub_cons rfl sub_nil) (by decide) (pick_cons rfl pick_nil)
 refine zg_out fun w2 => ?_
 show TX E K3 _
 refine tx_k' hK3 ?_
 refine cr fun K13 hK13 => ?_
 refine s0 (rd_move' rfl) ?_
 refine s0 (rd_assign' rfl) ?_
 refine nk hK13 ?_
 refine cx_retc' ?_
 replace hp := Option.some.inj hp
 subst hp
 refine tx_pick' (L' := [(2, (Vl (Vs w2)))]) (H' := [(Rw (Kl (Kl Kf)) 152 (Vs w2) v2)]) [0] (sub_cons rfl sub_nil) (by decide) (pick_cons rfl pick_nil) ?_
 exact tx_ret1' Try.results59 rfl w2 (rv_tmp' rfl) (List.Sublist.refl _)

def gogeom_deflate0 (k : Nat) (a1 : List Nat) (a2 : Int) : Option ((Int × Int) ⊕ (List Nat)) :=
 br (!decide ((a1.length : Int) = a2))
  (some (.inl ((a1.length : Int), a2)))
  ((apd 8 [] a1) >>= fun r19 =>
  some (.inr r19))
def gogeom_deflate0_r  (a1 : List Nat) (a2 : Int) (out : (Int × Int) ⊕ (List Nat)) (w : Gs) : SV := match out with
 | (.inl y) => (Tu [Vn, (If 194 (Ag [(Vi y.1), (Vi y.2)]))])
 | (.inr y) => (Tu [(Vl (Vs w)), Ve])
def gogeom_deflate0_h  (a1 : List Nat) (a2 : Int) (out : (Int × Int) ⊕ (List Nat)) (w : Gs) : List Res := match out with
 | (.inl y) => []
 | (.inr y) => [(Rw Kf 38 (Vs w) y)]

def gogeom_deflate0_v2 (k : Nat) (a0 : List Nat) (a1 : List Nat) (a2 : Int) : Option ((Int × Int) ⊕ (List Nat)) :=
 br (!decide ((a1.length : Int) = a2))
  (some (.inl ((a1.length : Int), a2)))
  ((apd 8 a0 a1) >>= fun r19 =>
  some (.inr r19))
def gogeom_deflate0_v2_r (wa0 : Gs) (a0 : List Nat) (a1 : List Nat) (a2 : Int) (out : (Int × Int) ⊕ (List Nat)) (w : Gs) : SV := match out with
 | (.inl y) => (Tu [Vn, (If 194 (Ag [(Vi y.1), (Vi y.2)]))])
 | (.inr y) => (Tu [(Vl (Vs w)), Ve])
def gogeom_deflate0_v2_h (wa0 : Gs) (a0 : List Nat) (a1 : List Nat) (a2 : Int) (out : (Int × Int) ⊕ (List Nat)) (w : Gs) : List Res := match out with
 | (.inl y) => []
 | (.inr y) => [(Rw Kf 38 (Vs w) y)]

theorem gogeom_deflate0_v2_sim {k : Nat} {wa0 : Gs} (a0 : List Nat) (a1 : List Nat) (a2 : Int) {out : (Int × Int) ⊕ (List Nat)} (hp : gogeom_deflate0_v2 k a0 a1 a2 = some out) : Sx.Fn Try.prog 155 [(Vl (Vs wa0)), (Sl Kf a1), (Vi a2)] [(Rw Kf 38 (Vs wa0) a0)] (fun w => gogeom_deflate0_v2_r wa0 a0 a1 a2 out w) (fun w => gogeom_deflate0_v2_h wa0 a0 a1 a2 out w) := by
 unfold gogeom_deflate0_v2 at hp
 refine fn_of Try.func155 rfl Try.ntmps155 rfl fun E hM => ?_
 refine cr fun K1 hK1 => ?_
 refine s0 (rd_assign' rfl) ?_
 refine s0 (rd_assign' rfl) ?_
 refine nk hK1 ?_
 refine cx_seq' fun K2 hK2 => ?_
 refine cr fun K3 hK3 => ?_
 refine s0 (rd_move' rfl) ?_
 refine s0 (rd_len' rfl Try.underlying132) ?_
 refine s0 (rd_move' rfl) ?_
 refine s0 (rd_bin' rfl rfl eg_int ru_neq) ?_
 refine nk hK3 ?_
 refine cx_cond' rfl (fun h1 => ?_) (fun h1 => ?_)
 ·replace hp := (br_t h1).symm.trans hp
  refine cr fun K4 hK4 => ?_
  refine s0 (rd_move' rfl) ?_
  refine s0 (rd_len' rfl Try.underlying132) ?_
  refine s0 (rd_move' rfl) ?_
  refine s0 (rd_build' (pls := [(0, 1), (1, 1)]) (qs := [(0, [(Vi (a1.length : Int))]), (1, [(Vi a2)])]) (r := [(Vi (a1.length : Int)), (Vi a2)]) ⟨rfl, ⟨_, rfl, (lv_vl rfl rfl)⟩, ⟨rfl, ⟨_, rfl, (lv_vl rfl rfl)⟩, trivial⟩⟩ Try.underlying194 has194 places194 info194 rfl rfl rfl) ?_
  refine s0 (rd_iface' rfl ⟨_, Try.underlying194, fun _ h => (nomatch h)⟩) ?_
  refine s0 (rd_assign' rfl) ?_
  refine s0 (rd_assign' rfl) ?_
  refine nk hK4 ?_
  refine cx_retc' ?_
  replace hp := Option.some.inj hp
  subst hp
  refine tx_pick' (L' := [(6, Vn), (7, (If 194 (Ag [(Vi (a1.length : Int)), (Vi a2)])))]) (H' := []) [] (sub_cons rfl (sub_cons rfl sub_nil)) (by decide) pick_nil ?_
  exact tx_ret2' Try.results155 rfl (none, 0, 0) (rv_tmp' rfl) (rv_tmp' rfl) rfl (List.Sublist.refl _)
 replace hp := (br_f h1).symm.trans hp
 refine cx_skip' ?_
 show TX E K2 _
 refine tx_k' hK2 ?_
 refine cr fun K5 hK5 => ?_
 refine s0 (rd_move' rfl) ?_
 refine s0 (rd_move' rfl) ?_
 obtain ⟨r19, hr19, hp⟩ := bind_some hp
 refine sx_ox' (ox_append' (K := Kf) (i := 0) (xs := a0) (ys := a1) rfl rfl rfl (sr_sl' rfl Try.underlying132) hr19 Try.underlying22 info38 rfl rfl rfl (H' := []) rfl) (wt_none' rfl) fun g19 => ?_
 refine s0 (rd_assign' rfl) ?_
 refine nk hK5 ?_
 refine cr fun K6 hK6 => ?_
 refine s0 (rd_move' rfl) ?_
 refine s0 (rd_assign' rfl) ?_
 refine s0 (rd_assign' rfl) ?_
 refine nk hK6 ?_
 refine cx_retc' ?_
 replace hp := Option.some.inj hp
 subst hp
 refine tx_pick' (L' := [(6, (Vl (Vs g19))), (7, Ve)]) (H' := [(Rw Kf 38 (Vs g19) r19)]) [0] (sub_cons rfl (sub_cons rfl sub_nil)) (by decide) (pick_cons rfl pick_nil) ?_
 exact tx_ret2' Try.results155 rfl g19 (rv_tmp' rfl) (rv_tmp' rfl) rfl (List.Sublist.refl _)

def gogeom_deflate1_l1s (a1 : List (List Nat)) (a2 : Int) (k : Nat) (rec1 : ((List Nat) × Int) → Option ((Int × Int) ⊕ (List Nat))) (x1 : List Nat) (x2 : Int) : Option ((Int × Int) ⊕ (List Nat)) :=
 br (decide (x2 < (a1.length : Int)))
  ((idx a1 x2) >>= fun r15 =>
  (gogeom_deflate0_v2 k x1 r15 a2) >>= fun r21 =>
  match r21 with
   | (.inl y3) =>
    (some (.inl (y3.1, y3.2)))
   | (.inr y3) =>
    (rec1 (y3, (iadd .i64 x2 1))))
  (some (.inr x1))
def gogeom_deflate1_l1 (a1 : List (List Nat)) (a2 : Int) : Nat → ((List Nat) × Int) → Option ((Int × Int) ⊕ (List Nat))
 | 0, _ => none
 | k + 1, v => gogeom_deflate1_l1s a1 a2 k (gogeom_deflate1_l1 a1 a2 k) v.1 v.2
def gogeom_deflate1 (k : Nat) (a1 : List (List Nat)) (a2 : Int) : Option ((Int × Int) ⊕ (List Nat)) :=
 (gogeom_deflate1_l1 a1 a2 k ([], 0)) >>= fun y5 => match y5 with
  | (.inl v2) =>
   (some (.inl (v2.1, v2.2)))
  | (.inr v3) =>
   (some (.inr v3))
def gogeom_deflate1_r  (a1 : List (List Nat)) (a2 : Int) (out : (Int × Int) ⊕ (List Nat)) (w : Gs) : SV := match out with
 | (.inl y) => (Tu [Vn, (If 194 (Ag [(Vi y.1), (Vi y.2)]))])
 | (.inr y) => (Tu [(Vl (Vs w)), Ve])
def gogeom_deflate1_h  (a1 : List (List Nat)) (a2 : Int) (out : (Int × Int) ⊕ (List Nat)) (w : Gs) : List Res := match out with
 | (.inl y) => []
 | (.inr y) => [(Rw Kf 38 (Vs w) y)]

def gogeom_deflate1_v2_l1s (a1 : List (List Nat)) (a2 : Int) (k : Nat) (rec1 : ((List Nat) × Int) → Option ((Int × Int) ⊕ (List Nat))) (x1 : List Nat) (x2 : Int) : Option ((Int × Int) ⊕ (List Nat)) :=
 br (decide (x2 < (a1.length : Int)))
  ((idx a1 x2) >>= fun r15 =>
  (gogeom_deflate0_v2 k x1 r15 a2) >>= fun r21 =>
  match r21 with
   | (.inl y3) =>
    (some (.inl (y3.1, y3.2)))
   | (.inr y3) =>
    (rec1 (y3, (iadd .i64 x2 1))))
  (some (.inr x1))
def gogeom_deflate1_v2_l1 (a1 : List (List Nat)) (a2 : Int) : Nat → ((List Nat) × Int) → Option ((Int × Int) ⊕ (List Nat))
 | 0, _ => none
 | k + 1, v => gogeom_deflate1_v2_l1s a1 a2 k (gogeom_deflate1_v2_l1 a1 a2 k) v.1 v.2
def gogeom_deflate1_v2 (k : Nat) (a0 : List Nat) (a1 : List (List Nat)) (a2 : Int) : Option ((Int × Int) ⊕ (List Nat)) :=
 (gogeom_deflate1_v2_l1 a1 a2 k (a0, 0)) >>= fun y5 => match y5 with
  | (.inl v2) =>
   (some (.inl (v2.1, v2.2)))
  | (.inr v3) =>
   (some (.inr v3))
def gogeom_deflate1_v2_r (wa0 : Gs) (a0 : List Nat) (a1 : List (List Nat)) (a2 : Int) (out : (Int × Int) ⊕ (List Nat)) (w : Gs) : SV := match out with
 | (.inl y) => (Tu [Vn, (If 194 (Ag [(Vi y.1), (Vi y.2)]))])
 | (.inr y) => (Tu [(Vl (Vs w)), Ve])
def gogeom_deflate1_v2_h (wa0 : Gs) (a0 : List Nat) (a1 : List (List Nat)) (a2 : Int) (out : (Int × Int) ⊕ (List Nat)) (w : Gs) : List Res := match out with
 | (.inl y) => []
 | (.inr y) => [(Rw Kf 38 (Vs w) y)]

theorem gogeom_deflate1_v2_sim {k : Nat} {wa0 : Gs} (a0 : List Nat) (a1 : List (List Nat)) (a2 : Int) {out : (Int × Int) ⊕ (List Nat)} (hp : gogeom_deflate1_v2 k a0 a1 a2 = some out) : Sx.Fn Try.prog 134 [(Vl (Vs wa0)), (Sl (Kl Kf) a1), (Vi a2)] [(Rw Kf 38 (Vs wa0) a0)] (fun w => gogeom_deflate1_v2_r wa0 a0 a1 a2 out w) (fun w => gogeom_deflate1_v2_h wa0 a0 a1 a2 out w) := by
 unfold gogeom_deflate1_v2 at hp
 refine fn_of Try.func134 rfl Try.ntmps134 rfl fun E hM => ?_
 refine cr fun K1 hK1 => ?_
 refine s0 (rd_assign' rfl) ?_
 refine s0 (rd_assign' rfl) ?_
 refine nk hK1 ?_
 refine cx_seq' fun K2 hK2 => ?_
 refine cr fun K3 hK3 => ?_
 refine s0 (rd_move' rfl) ?_
 refine s0 (rd_len' rfl Try.underlying152) ?_
 refine s0 (rd_move' rfl) ?_
 refine nk hK3 ?_
 refine cx_block' ?_
 obtain ⟨y5, hy1, hp⟩ := bind_some hp
 refine cx_loopg' (F := gogeom_deflate1_v2_l1 a1 a2) (G := fun k R v => gogeom_deflate1_v2_l1s a1 a2 k R v.1 v.2) (x := (a0, 0)) (gh := wa0) (fun (v1 : (List Nat) × Int) (w1 : Gs) => (⟨29, [], [(0, (Vl (Vs w1))), (2, (Vi a2)), (11, (Sl (Kl Kf) a1)), (12, (Vi (a1.length : Int))), (13, (Vi v1.2))], [(Rw Kf 38 (Vs w1) v1.1)]⟩ : St)) (fun (y : (Int × Int) ⊕ (List Nat)) => match y with | (.inl v2) => Zg E Exit.ret (fun (w2 : Unit) => (⟨29, [], [(6, Vn), (7, (If 194 (Ag [(Vi v2.1), (Vi v2.2)])))], []⟩ : St)) | (.inr v3) => Zg E (Exit.exit 0) (fun (w3 : Gs) => (⟨29, [], [(0, (Vl (Vs w3)))], [(Rw Kf 38 (Vs w3) v3)]⟩ : St))) (fun _ => rfl) (fun _ _ => rfl) ?_ hy1 (tx_to' rfl [0] (sub_cons rfl (sub_cons rfl (sub_cons rfl (sub_cons rfl (sub_cons rfl sub_nil))))) (by decide) (pick_cons rfl pick_nil)) ?_
 ·clear hp hy1
  clear y5
  intro k rec1 KY1 ih1
  rintro ⟨x1, x2⟩ g901 y5 hp
  replace hp : gogeom_deflate1_v2_l1s a1 a2 k rec1 x1 x2 = some y5 := hp
  unfold gogeom_deflate1_v2_l1s at hp
  refine cr fun K12 hK12 => ?_
  refine s0 (rd_bin' rfl rfl eg_int ru_lss) ?_
  refine nk hK12 ?_
  refine cx_seq' fun K13 hK13 => ?_
  refine cx_cond' rfl (fun h3 => ?_) (fun h3 => ?_)
  ·replace hp := (br_t h3).symm.trans hp
   refine cx_skip' ?_
   show TX E K13 _
   refine tx_k' hK13 ?_
   refine cx_seq' fun K14 hK14 => ?_
   refine cx_block' ?_
   refine cr fun K15 hK15 => ?_
   obtain ⟨r15, hr15, hp⟩ := bind_some hp
   refine s0 (rd_at' (K := (Kl Kf)) rfl rfl hr15 Try.underlying152 info132) ?_
   refine s0 (rd_load_pt' rfl rfl flat132) ?_
   refine s0 (rd_assign' rfl) ?_
   refine nk hK15 ?_
   refine cr fun K16 hK16 => ?_
   refine s0 (rd_assign' rfl) ?_
   refine nk hK16 ?_
   refine cr fun K17 hK17 => ?_
   refine s0 (rd_move' rfl) ?_
   refine s0 (rd_move' rfl) ?_
   refine s0 (rd_move' rfl) ?_
   obtain ⟨r21, hr21, hp⟩ := bind_some hp
   rcases r21 with y3 | y3
   ·dsimp only at hp
    refine sx_ox' (ox_callg' (ent_fn' Try.func155 isn155 rfl rfl) (gogeom_deflate0_v2_sim _ _ _ hr21 : Sx.Fn Try.prog 155 [(Vl (Vs g901)), (Sl Kf r15), (Vi a2)] [(Rw Kf 38 (Vs g901) x1)] (fun x : Gs => (Tu [Vn, (If 194 (Ag [(Vi y3.1), (Vi y3.2)]))])) (fun x => [])) [0] [] (by decide) (pick_cons rfl pick_nil) pick_nil (Hn := fun x : Gs => []) (fun _ => rfl) rfl rfl) (wt_none' rfl) fun g21 => ?_
    refine s0 (rd_move' rfl) ?_
    refine s0 (rd_extract' rfl rfl) ?_
    refine s0 (rd_extract' rfl rfl) ?_
    refine s0 (rd_assign' rfl) ?_
    refine s0 (rd_assign' rfl) ?_
    refine nk hK17 ?_
    refine cr fun K18 hK18 => ?_
    refine s0 (rd_move' rfl) ?_
    refine s0 (rd_binf' rfl rfl (bf_if (fun _ _ => by kernel_rfl) nil_neq113_if194)) ?_
    refine nk hK18 ?_
    refine cx_cond_t' rfl rfl ?_
    refine cr fun K19 hK19 => ?_
    refine s0 (rd_move' rfl) ?_
    refine s0 (rd_assign' rfl) ?_
    refine s0 (rd_assign' rfl) ?_
    refine nk hK19 ?_
    refine cx_retc' ?_
    replace hp := Option.some.inj hp
    subst hp
    show TX E (Zg E Exit.ret _ Exit.ret) _
    exact tx_zend' () rfl [] (sub_cons rfl (sub_cons rfl sub_nil)) (by decide) pick_nil
   dsimp only at hp
   refine sx_ox' (ox_callg' (ent_fn' Try.func155 isn155 rfl rfl) (gogeom_deflate0_v2_sim _ _ _ hr21 : Sx.Fn Try.prog 155 [(Vl (Vs g901)), (Sl Kf r15), (Vi a2)] [(Rw Kf 38 (Vs g901) x1)] (fun x : Gs => (Tu [(Vl (Vs x)), Ve])) (fun x => [(Rw Kf 38 (Vs x) y3)])) [0] [] (by decide) (pick_cons rfl pick_nil) pick_nil (Hn := fun x : Gs => [(Rw Kf 38 (Vs x) y3)]) (fun _ => rfl) rfl rfl) (wt_none' rfl) fun g21 => ?_
   refine s0 (rd_move' rfl) ?_
   refine s0 (rd_extract' rfl rfl) ?_
   refine s0 (rd_extract' rfl rfl) ?_
   refine s0 (rd_assign' rfl) ?_
   refine s0 (rd_assign' rfl) ?_
   refine nk hK17 ?_
   refine cr fun K18 hK18 => ?_
   refine s0 (rd_move' rfl) ?_
   refine s0 (rd_binf' rfl rfl (bf_vl (fun _ => by kernel_rfl) nil_neq113_nilif)) ?_
   refine nk hK18 ?_
   refine cx_cond_f' rfl rfl ?_
   refine cx_skip' ?_
   show TX E K14 _
   refine tx_k' hK14 ?_
   refine cx_region' ?_
   refine s0 (rd_bin' rfl rfl eg_int ru_add) ?_
   refine s0 (rd_move' rfl) ?_
   refine sx_nil' ?_
   show TX E (KY1 _) _
   exact tx_pick' [0] (sub_cons rfl (sub_cons rfl (sub_cons rfl (sub_cons rfl (sub_cons rfl sub_nil))))) (by decide) (pick_cons rfl pick_nil) (ih1 (y3, (iadd .i64 x2 1)) g21 _ hp)
  replace hp := (br_f h3).symm.trans hp
  refine cx_exit' ?_
  replace hp := Option.some.inj hp
  subst hp
  show TX E (Zg E (Exit.exit 0) _ (Exit.exit 0)) _
  exact tx_zend' g901 rfl [0] (sub_cons rfl sub_nil) (by decide) (pick_cons rfl pick_nil)
 rcases y5 with v2 | v3
 ·dsimp only at hp
  refine zg_out fun w2 => ?_
  replace hp := Option.some.inj hp
  subst hp
  refine tx_pick' (L' := [(6, Vn), (7, (If 194 (Ag [(Vi v2.1), (Vi v2.2)])))]) (H' := []) [] (sub_cons rfl (sub_cons rfl sub_nil)) (by decide) pick_nil ?_
  exact tx_ret2' Try.results134 rfl (none, 0, 0) (rv_tmp' rfl) (rv_tmp' rfl) rfl (List.Sublist.refl _)
 dsimp only at hp
 refine zg_out fun w3 => ?_
 show TX E K2 _
 refine tx_k' hK2 ?_
 refine cr fun K20 hK20 => ?_
 refine s0 (rd_move' rfl) ?_
 refine s0 (rd_assign' rfl) ?_
 refine s0 (rd_assign' rfl) ?_
 refine nk hK20 ?_
 refine cx_retc' ?_
 replace hp := Option.some.inj hp
 subst hp
 refine tx_pick' (L' := [(6, (Vl (Vs w3))), (7, Ve)]) (H' := [(Rw Kf 38 (Vs w3) v3)]) [0] (sub_cons rfl (sub_cons rfl sub_nil)) (by decide) (pick_cons rfl pick_nil) ?_
 exact tx_ret2' Try.results134 rfl w3 (rv_tmp' rfl) (rv_tmp' rfl) rfl (List.Sublist.refl _)

def gogeom_deflate2_l1s (a2 : List (List (List Nat))) (a3 : Int) (k : Nat) (rec1 : ((List Nat) × (List Int) × Int) → Option ((Int × Int) ⊕ ((List Nat) × (List Int)))) (x1 : List Nat) (x2 : List Int) (x3 : Int) : Option ((Int × Int) ⊕ ((List Nat) × (List Int))) :=
 br (decide (x3 < (a2.length : Int)))
  ((idx a2 x3) >>= fun r18 =>
  (gogeom_deflate1_v2 k x1 r18 a3) >>= fun r24 =>
  match r24 with
   | (.inl y3) =>
    (some (.inl (y3.1, y3.2)))
   | (.inr y3) =>
    ((apd 8 x2 ([(y3.length : Int)])) >>= fun r34 =>
    rec1 (y3, r34, (iadd .i64 x3 1))))
  (some (.inr (x1, x2)))
def gogeom_deflate2_l1 (a2 : List (List (List Nat))) (a3 : Int) : Nat → ((List Nat) × (List Int) × Int) → Option ((Int × Int) ⊕ ((List Nat) × (List Int)))
 | 0, _ => none
 | k + 1, v => gogeom_deflate2_l1s a2 a3 k (gogeom_deflate2_l1 a2 a3 k) v.1 v.2.1 v.2.2
def gogeom_deflate2 (k : Nat) (a2 : List (List (List Nat))) (a3 : Int) : Option (((List (List (List Nat))) × Int × Int) ⊕ ((List (List (List Nat))) × (List Nat) × (List Int))) :=
 (gogeom_deflate2_l1 a2 a3 k ([], [], 0)) >>= fun y5 => match y5 with
  | (.inl v2) =>
   (some (.inl (a2, v2.1, v2.2)))
  | (.inr v3) =>
   (some (.inr (a2, v3.1, v3.2)))
def gogeom_deflate2_r (wa2 : Gs) (a2 : List (List (List Nat))) (a3 : Int) (out : ((List (List (List Nat))) × Int × Int) ⊕ ((List (List (List Nat))) × (List Nat) × (List Int))) (w : Unit) : SV := match out with
 | (.inl y) => (Tu [Vn, Vn, (If 194 (Ag [(Vi y.2.1), (Vi y.2.2)]))])
 | (.inr y) => (Tu [(Sl Kf y.2.1), (Sl (Ki .i64) y.2.2), Ve])
def gogeom_deflate2_h (wa2 : Gs) (a2 : List (List (List Nat))) (a3 : Int) (out : ((List (List (List Nat))) × Int × Int) ⊕ ((List (List (List Nat))) × (List Nat) × (List Int))) (w : Unit) : List Res := match out with
 | (.inl y) => [(Rw (Kl (Kl Kf)) 152 (Vs wa2) y.1)]
 | (.inr y) => [(Rw (Kl (Kl Kf)) 152 (Vs wa2) y.1)]

theorem gogeom_deflate2_sim {k : Nat} {wa2 : Gs} (a2 : List (List (List Nat))) (a3 : Int) {out : ((List (List (List Nat))) × Int × Int) ⊕ ((List (List (List Nat))) × (List Nat) × (List Int))} (hp : gogeom_deflate2 k a2 a3 = some out) : Sx.Fn Try.prog 98 [Vn, Vn, (Vl (Vs wa2)), (Vi a3)] [(Rw (Kl (Kl Kf)) 152 (Vs wa2) a2)] (fun w => gogeom_deflate2_r wa2 a2 a3 out w) (fun w => gogeom_deflate2_h wa2 a2 a3 out w) := by
 unfold gogeom_deflate2 at hp
 refine fn_of Try.func98 rfl Try.ntmps98 rfl fun E hM => ?_
 refine cr fun K1 hK1 => ?_
 refine s0 (rd_assign' rfl) ?_
 refine s0 (rd_assign' rfl) ?_
 refine s0 (rd_assign' rfl) ?_
 refine nk hK1 ?_
 refine cx_seq' fun K2 hK2 => ?_
 refine cr fun K3 hK3 => ?_
 refine s0 (rd_move' rfl) ?_
 refine s0 (rd_lenr' (i := 0) rfl rfl rfl Try.underlying116) ?_
 refine s0 (rd_move' rfl) ?_
 refine nk hK3 ?_
 refine cx_block' ?_
 obtain ⟨y5, hy1, hp⟩ := bind_some hp
 refine tx_nilrow' Kf 38 ?_
 refine tx_nilrow' (Ki .i64) 3 ?_
 refine cx_loopg' (F := gogeom_deflate2_l1 a2 a3) (G := fun k R v => gogeom_deflate2_l1s a2 a3 k R v.1 v.2.1 v.2.2) (x := ([], [], 0)) (gh := ((none, 0, 0), (none, 0, 0))) (fun (v1 : (List Nat) × (List Int) × Int) (w1 : Gs × Gs) => (⟨38, [], [(0, (Vl (Vs w1.1))), (1, (Vl (Vs w1.2))), (3, (Vi a3)), (14, (Vl (Vs wa2))), (15, (Vi (a2.length : Int))), (16, (Vi v1.2.2))], [(Rw Kf 38 (Vs w1.1) v1.1), (Rw (Ki .i64) 3 (Vs w1.2) v1.2.1), (Rw (Kl (Kl Kf)) 152 (Vs wa2) a2)]⟩ : St)) (fun (y : (Int × Int) ⊕ ((List Nat) × (List Int))) => match y with | (.inl v2) => Zg E Exit.ret (fun (w2 : Unit) => (⟨38, [], [(8, Vn), (9, Vn), (10, (If 194 (Ag [(Vi v2.1), (Vi v2.2)])))], [(Rw (Kl (Kl Kf)) 152 (Vs wa2) a2)]⟩ : St)) | (.inr v3) => Zg E (Exit.exit 0) (fun (w3 : Gs × Gs) => (⟨38, [], [(0, (Vl (Vs w3.1))), (1, (Vl (Vs w3.2)))], [(Rw Kf 38 (Vs w3.1) v3.1), (Rw (Ki .i64) 3 (Vs w3.2) v3.2), (Rw (Kl (Kl Kf)) 152 (Vs wa2) a2)]⟩ : St))) (fun _ => rfl) (fun _ _ => rfl) ?_ hy1 (tx_to' rfl [1, 0, 2] (sub_cons rfl (sub_cons rfl (sub_cons rfl (sub_cons rfl (sub_cons rfl (sub_cons rfl sub_nil)))))) (by decide) (pick_cons rfl (pick_cons rfl (pick_cons rfl pick_nil)))) ?_
 ·clear hp hy1
  clear y5
  intro k rec1 KY1 ih1
  rintro ⟨x1, x2, x3⟩ ⟨g901, g902⟩ y5 hp
  replace hp : gogeom_deflate2_l1s a2 a3 k rec1 x1 x2 x3 = some y5 := hp
  unfold gogeom_deflate2_l1s at hp
  refine cr fun K13 hK13 => ?_
  refine s0 (rd_bin' rfl rfl eg_int ru_lss) ?_
  refine nk hK13 ?_
  refine cx_seq' fun K14 hK14 => ?_
  refine cx_cond' rfl (fun h3 => ?_) (fun h3 => ?_)
  ·replace hp := (br_t h3).symm.trans hp
   refine cx_skip' ?_
   show TX E K14 _
   refine tx_k' hK14 ?_
   refine cx_seq' fun K15 hK15 => ?_
   refine cx_block' ?_
   refine cr fun K16 hK16 => ?_
   obtain ⟨r18, hr18, hp⟩ := bind_some hp
   refine s0 (rd_atr' (m := 2) rfl rfl rfl rfl hr18 Try.underlying116 info152) ?_
   refine s0 (rd_loadr' rfl (m := 2) (i := x3) (j := 0) rfl rfl hr18 rfl rfl flat152) ?_
   refine s0 (rd_assign' rfl) ?_
   refine nk hK16 ?_
   refine cr fun K17 hK17 => ?_
   refine s0 (rd_assign' rfl) ?_
   refine nk hK17 ?_
   refine cr fun K18 hK18 => ?_
   refine s0 (rd_move' rfl) ?_
   refine s0 (rd_move' rfl) ?_
   refine s0 (rd_move' rfl) ?_
   obtain ⟨r24, hr24, hp⟩ := bind_some hp
   rcases r24 with y3 | y3
   ·dsimp only at hp
    refine sx_ox' (ox_callg' (ent_fn' Try.func134 isn134 rfl rfl) (gogeom_deflate1_v2_sim _ _ _ hr24 : Sx.Fn Try.prog 134 [(Vl (Vs g901)), (Sl (Kl Kf) r18), (Vi a3)] [(Rw Kf 38 (Vs g901) x1)] (fun x : Gs => (Tu [Vn, (If 194 (Ag [(Vi y3.1), (Vi y3.2)]))])) (fun x => [])) [0] [1, 2] (by decide) (pick_cons rfl pick_nil) (pick_cons rfl (pick_cons rfl pick_nil)) (Hn := fun x : Gs => [(Rw (Ki .i64) 3 (Vs g902) x2), (Rw (Kl (Kl Kf)) 152 (Vs wa2) a2)]) (fun _ => rfl) rfl rfl) (wt_none' rfl) fun g24 => ?_
    refine s0 (rd_move' rfl) ?_
    refine s0 (rd_extract' rfl rfl) ?_
    refine s0 (rd_extract' rfl rfl) ?_
    refine s0 (rd_assign' rfl) ?_
    refine s0 (rd_assign' rfl) ?_
    refine nk hK18 ?_
    refine cx_seq' fun K19 hK19 => ?_
    refine cr fun K20 hK20 => ?_
    refine s0 (rd_move' rfl) ?_
    refine s0 (rd_binf' rfl rfl (bf_if (fun _ _ => by kernel_rfl) nil_neq113_if194)) ?_
    refine nk hK20 ?_
    refine cx_cond_t' rfl rfl ?_
    refine cr fun K21 hK21 => ?_
    refine s0 (rd_move' rfl) ?_
    refine s0 (rd_assign' rfl) ?_
    refine s0 (rd_assign' rfl) ?_
    refine s0 (rd_assign' rfl) ?_
    refine nk hK21 ?_
    refine cx_retc' ?_
    replace hp := Option.some.inj hp
    subst hp
    show TX E (Zg E Exit.ret _ Exit.ret) _
    exact tx_zend' () rfl [1] (sub_cons rfl (sub_cons rfl (sub_cons rfl sub_nil))) (by decide) (pick_cons rfl pick_nil)
   dsimp only at hp
   refine sx_ox' (ox_callg' (ent_fn' Try.func134 isn134 rfl rfl) (gogeom_deflate1_v2_sim _ _ _ hr24 : Sx.Fn Try.prog 134 [(Vl (Vs g901)), (Sl (Kl Kf) r18), (Vi a3)] [(Rw Kf 38 (Vs g901) x1)] (fun x : Gs => (Tu [(Vl (Vs x)), Ve])) (fun x => [(Rw Kf 38 (Vs x) y3)])) [0] [1, 2] (by decide) (pick_cons rfl pick_nil) (pick_cons rfl (pick_cons rfl pick_nil)) (Hn := fun x : Gs => [(Rw Kf 38 (Vs x) y3), (Rw (Ki .i64) 3 (Vs g902) x2), (Rw (Kl (Kl Kf)) 152 (Vs wa2) a2)]) (fun _ => rfl) rfl rfl) (wt_none' rfl) fun g24 => ?_
   refine s0 (rd_move' rfl) ?_
   refine s0 (rd_extract' rfl rfl) ?_
   refine s0 (rd_extract' rfl rfl) ?_
   refine s0 (rd_assign' rfl) ?_
   refine s0 (rd_assign' rfl) ?_
   refine nk hK18 ?_
   refine cx_seq' fun K19 hK19 => ?_
   refine cr fun K20 hK20 => ?_
   refine s0 (rd_move' rfl) ?_
   refine s0 (rd_binf' rfl rfl (bf_vl (fun _ => by kernel_rfl) nil_neq113_nilif)) ?_
   refine nk hK20 ?_
   refine cx_cond_f' rfl rfl ?_
   refine cx_skip' ?_
   show TX E K19 _
   refine tx_k' hK19 ?_
   refine cx_region' ?_
   refine s0 (rd_move' rfl) ?_
   refine s0 (rd_move' rfl) ?_
   refine s0 (rd_lenr' (i := 0) rfl rfl rfl Try.underlying22) ?_
   refine sx_ox' (ox_rowlit' (K := (Ki .i64)) (xs := [(y3.length : Int)]) (qs := [(0, [(Vi (y3.length : Int))])]) ⟨rfl, ⟨_, rfl, (lv_vl rfl rfl)⟩, trivial⟩ Try.underlying34 info3 rfl rfl rfl rfl rfl (by kernel_rfl) rfl rfl rfl) (wt_none' rfl) fun g33 => ?_
   obtain ⟨r34, hr34, hp⟩ := bind_some hp
   refine sx_ox' (ox_append' (K := (Ki .i64)) (i := 2) (xs := x2) (ys := ([(y3.length : Int)])) rfl rfl rfl (sr_row' (j := 0) rfl rfl rfl Try.underlying34) hr34 Try.underlying34 info3 rfl rfl rfl (H' := [(Rw (Ki .i64) 3 (Vs g33) ([(y3.length : Int)])), (Rw Kf 38 (Vs g24) y3), (Rw (Kl (Kl Kf)) 152 (Vs wa2) a2)]) rfl) (wt_none' rfl) fun g34 => ?_
   refine s0 (rd_assign' rfl) ?_
   refine nk hK15 ?_
   refine cx_region' ?_
   refine s0 (rd_bin' rfl rfl eg_int ru_add) ?_
   refine s0 (rd_move' rfl) ?_
   refine sx_nil' ?_
   show TX E (KY1 _) _
   exact tx_pick' [2, 0, 3] (sub_cons rfl (sub_cons rfl (sub_cons rfl (sub_cons rfl (sub_cons rfl (sub_cons rfl sub_nil)))))) (by decide) (pick_cons rfl (pick_cons rfl (pick_cons rfl pick_nil))) (ih1 (y3, r34, (iadd .i64 x3 1)) (g24, g34) _ hp)
  replace hp := (br_f h3).symm.trans hp
  refine cx_exit' ?_
  replace hp := Option.some.inj hp
  subst hp
  show TX E (Zg E (Exit.exit 0) _ (Exit.exit 0)) _
  exact tx_zend' (g901, g902) rfl [0, 1, 2] (sub_cons rfl (sub_cons rfl sub_nil)) (by decide) (pick_cons rfl (pick_cons rfl (pick_cons rfl pick_nil)))
 rcases y5 with v2 | v3
 ·dsimp only at hp
  refine zg_out fun w2 => ?_
  replace hp := Option.some.inj hp
  subst hp
  refine tx_pick' (L' := [(8, Vn), (9, Vn), (10, (If 194 (Ag [(Vi v2.1), (Vi v2.2)])))]) (H' := [(Rw (Kl (Kl Kf)) 152 (Vs wa2) a2)]) [0] (sub_cons rfl (sub_cons rfl (sub_cons rfl sub_nil))) (by decide) (pick_cons rfl pick_nil) ?_
  exact tx_ret3' Try.results98 rfl () (rv_tmp' rfl) (rv_tmp' rfl) (rv_tmp' rfl) rfl (List.Sublist.refl _)
 dsimp only at hp
 refine zg_out fun w3 => ?_
 show TX E K2 _
 refine tx_k' hK2 ?_
 refine cr fun K22 hK22 => ?_
 refine s0 (rd_move' rfl) ?_
 refine s0 (rd_move' rfl) ?_
 refine s0 (rd_assign' rfl) ?_
 refine s0 (rd_assign' rfl) ?_
 refine s0 (rd_assign' rfl) ?_
 refine nk hK22 ?_
 refine cx_retc' ?_
 replace hp := Option.some.inj hp
 subst hp
 refine tx_fz' (frz_row 0 [(0, (Vl (Vs w3.1)), (Sl Kf v3.1)), (36, (Vl (Vs w3.1)), (Sl Kf v3.1)), (8, (Vl (Vs w3.1)), (Sl Kf v3.1))] (K := Kf) (xs := v3.1) (by decide) rfl ⟨⟨rfl, frz_it⟩, ⟨rfl, frz_it⟩, ⟨rfl, frz_it⟩, trivial⟩ (H' := [(Rw (Ki .i64) 3 (Vs w3.2) v3.2), (Rw (Kl (Kl Kf)) 152 (Vs wa2) a2)]) frzH_refl) ?_
 refine tx_fz' (frz_row 0 [(1, (Vl (Vs w3.2)), (Sl (Ki .i64) v3.2)), (37, (Vl (Vs w3.2)), (Sl (Ki .i64) v3.2)), (9, (Vl (Vs w3.2)), (Sl (Ki .i64) v3.2))] (K := (Ki .i64)) (xs := v3.2) (by decide) rfl ⟨⟨rfl, frz_it⟩, ⟨rfl, frz_it⟩, ⟨rfl, frz_it⟩, trivial⟩ (H' := [(Rw (Kl (Kl Kf)) 152 (Vs wa2) a2)]) frzH_refl) ?_
 refine tx_pick' (L' := [(8, (Sl Kf v3.1)), (9, (Sl (Ki .i64) v3.2)), (10, Ve)]) (H' := [(Rw (Kl (Kl Kf)) 152 (Vs wa2) a2)]) [0] (sub_cons rfl (sub_cons rfl (sub_cons rfl sub_nil))) (by decide) (pick_cons rfl pick_nil) ?_
 exact tx_ret3' Try.results98 rfl () (rv_tmp' rfl) (rv_tmp' rfl) (rv_tmp' rfl) rfl (List.Sublist.refl _)

def gogeom_DoorDeflate2 (k : Nat) (a0 : List (List (List Nat))) (a1 : Int) : Option (((List (List (List Nat))) × Int × Int) ⊕ ((List (List (List Nat))) × (List Nat) × (List Int))) :=
 (gogeom_deflate2 k a0 a1) >>= fun r9 =>
 match r9 with
  | (.inl y1) =>
   (some (.inl (y1.1, y1.2.1, y1.2.2)))
  | (.inr y1) =>
   (some (.inr (y1.1, y1.2.1, y1.2.2)))
def gogeom_DoorDeflate2_r (wa0 : Gs) (a0 : List (List (List Nat))) (a1 : Int) (out : ((List (List (List Nat))) × Int × Int) ⊕ ((List (List (List Nat))) × (List Nat) × (List Int))) (w : Unit) : SV := match out with
 | (.inl y) => (Tu [Vn, Vn, (If 194 (Ag [(Vi y.2.1), (Vi y.2.2)]))])
 | (.inr y) => (Tu [(Sl Kf y.2.1), (Sl (Ki .i64) y.2.2), Ve])
def gogeom_DoorDeflate2_h (wa0 : Gs) (a0 : List (List (List Nat))) (a1 : Int) (out : ((List (List (List Nat))) × Int × Int) ⊕ ((List (List (List Nat))) × (List Nat) × (List Int))) (w : Unit) : List Res := match out with
 | (.inl y) => [(Rw (Kl (Kl Kf)) 152 (Vs wa0) y.1)]
 | (.inr y) => [(Rw (Kl (Kl Kf)) 152 (Vs wa0) y.1)]

theorem gogeom_DoorDeflate2_sim {k : Nat} {wa0 : Gs} (a0 : List (List (List Nat))) (a1 : Int) {out : ((List (List (List Nat))) × Int × Int) ⊕ ((List (List (List Nat))) × (List Nat) × (List Int))} (hp : gogeom_DoorDeflate2 k a0 a1 = some out) : Sx.Fn Try.prog 58 [(Vl (Vs wa0)), (Vi a1)] [(Rw (Kl (Kl Kf)) 152 (Vs wa0) a0)] (fun w => gogeom_DoorDeflate2_r wa0 a0 a1 out w) (fun w => gogeom_DoorDeflate2_h wa0 a0 a1 out w) := by
 unfold gogeom_DoorDeflate2 at hp
 refine fn_of Try.func58 rfl Try.ntmps58 rfl fun E hM => ?_
 refine cr fun K1 hK1 => ?_
 refine s0 (rd_assign' rfl) ?_
 refine s0 (rd_assign' rfl) ?_
 refine s0 (rd_assign' rfl) ?_
 refine nk hK1 ?_
 refine cr fun K2 hK2 => ?_
 refine s0 (rd_move' rfl) ?_
 refine s0 (rd_move' rfl) ?_
 obtain ⟨r9, hr9, hp⟩ := bind_some hp
 rcases r9 with y1 | y1
 ·dsimp only at hp
  refine sx_ox' (ox_callg' (ent_fn' Try.func98 isn98 rfl rfl) (gogeom_deflate2_sim _ _ hr9 : Sx.Fn Try.prog 98 [Vn, Vn, (Vl (Vs wa0)), (Vi a1)] [(Rw (Kl (Kl Kf)) 152 (Vs wa0) a0)] (fun x : Unit => (Tu [Vn, Vn, (If 194 (Ag [(Vi y1.2.1), (Vi y1.2.2)]))])) (fun x => [(Rw (Kl (Kl Kf)) 152 (Vs wa0) y1.1)])) [0] [] (by decide) (pick_cons rfl pick_nil) pick_nil (Hn := fun x : Unit => [(Rw (Kl (Kl Kf)) 152 (Vs wa0) y1.1)]) (fun _ => rfl) rfl rfl) (wt_none' rfl) fun ⟨⟩ => ?_
  refine s0 (rd_extract' rfl rfl) ?_
  refine s0 (rd_extract' rfl rfl) ?_
  refine s0 (rd_extract' rfl rfl) ?_
  refine s0 (rd_assign' rfl) ?_
  refine s0 (rd_assign' rfl) ?_
  refine s0 (rd_assign' rfl) ?_
  refine nk hK2 ?_
  refine cx_retc' ?_
  replace hp := Option.some.inj hp
  subst hp
  refine tx_pick' (L' := [(4, Vn), (5, Vn), (6, (If 194 (Ag [(Vi y1.2.1), (Vi y1.2.2)])))]) (H' := [(Rw (Kl (Kl Kf)) 152 (Vs wa0) y1.1)]) [0] (sub_cons rfl (sub_cons rfl (sub_cons rfl sub_nil))) (by decide) (pick_cons rfl pick_nil) ?_
  exact tx_ret3' Try.results58 rfl () (rv_tmp' rfl) (rv_tmp' rfl) (rv_tmp' rfl) rfl (List.Sublist.refl _)
 dsimp only at hp
 refine sx_ox' (ox_callg' (ent_fn' Try.func98 isn98 rfl rfl) (gogeom_deflate2_sim _ _ hr9 : Sx.Fn Try.prog 98 [Vn, Vn, (Vl (Vs wa0)), (Vi a1)] [(Rw (Kl (Kl Kf)) 152 (Vs wa0) a0)] (fun x : Unit => (Tu [(Sl Kf y1.2.1), (Sl (Ki .i64) y1.2.2), Ve])) (fun x => [(Rw (Kl (Kl Kf)) 152 (Vs wa0) y1.1)])) [0] [] (by decide) (pick_cons rfl pick_nil) pick_nil (Hn := fun x : Unit => [(Rw (Kl (Kl Kf)) 152 (Vs wa0) y1.1)]) (fun _ => rfl) rfl rfl) (wt_none' rfl) fun ⟨⟩ => ?_
 refine s0 (rd_extract' rfl rfl) ?_
 refine s0 (rd_extract' rfl rfl) ?_
 refine s0 (rd_extract' rfl rfl) ?_
 refine s0 (rd_assign' rfl) ?_
 refine s0 (rd_assign' rfl) ?_
 refine s0 (rd_assign' rfl) ?_
 refine nk hK2 ?_
 refine cx_retc' ?_
 replace hp := Option.some.inj hp
 subst hp
 refine tx_pick' (L' := [(4, (Sl Kf y1.2.1)), (5, (Sl (Ki .i64) y1.2.2)), (6, Ve)]) (H' := [(Rw (Kl (Kl Kf)) 152 (Vs wa0) y1.1)]) [0] (sub_cons rfl (sub_cons rfl (sub_cons rfl sub_nil))) (by decide) (pick_cons rfl pick_nil) ?_
 exact tx_ret3' Try.results58 rfl () (rv_tmp' rfl) (rv_tmp' rfl) (rv_tmp' rfl) rfl (List.Sublist.refl _)

def impl_floats_v2 (k : Nat)  : Option ((List Nat)) :=
 (apd 8 [] []) >>= fun r4 =>
 some r4

theorem impl_floats_v2_sim {k : Nat}   {out : (List Nat)} (hp : impl_floats_v2 k = some out) : Sx.Fn Try.prog 50 [Vn] [] (fun w : Unit => (Sl Kf out)) (fun w => []) := by
 unfold impl_floats_v2 at hp
 refine fn_of Try.func50 rfl Try.ntmps50 rfl fun E hM => ?_
 refine cr fun K1 hK1 => ?_
 refine s0 (rd_assign' rfl) ?_
 refine nk hK1 ?_
 refine cr fun K2 hK2 => ?_
 refine s0 (rd_move' rfl) ?_
 refine tx_nilrow' Kf 38 ?_
 obtain ⟨r4, hr4, hp⟩ := bind_some hp
 refine sx_ox' (ox_append' (K := Kf) (i := 0) (xs := []) (ys := []) rfl rfl rfl (sr_nil' rfl Try.underlying22) hr4 Try.underlying22 info38 rfl rfl rfl (H' := []) rfl) (wt_none' rfl) fun g4 => ?_
 refine s0 (rd_assign' rfl) ?_
 refine nk hK2 ?_
 refine cx_retc' ?_
 replace hp := Option.some.inj hp
 subst hp
 refine tx_fz' (frz_row 0 [(2, (Vl (Vs g4)), (Sl Kf r4)), (4, (Vl (Vs g4)), (Sl Kf r4))] (K := Kf) (xs := r4) (by decide) rfl ⟨⟨rfl, frz_it⟩, ⟨rfl, frz_it⟩, trivial⟩ (H' := []) frzH_refl) ?_
 refine tx_pick' (L' := [(2, (Sl Kf r4))]) (H' := []) [] (sub_cons rfl sub_nil) (by decide) pick_nil ?_
 exact tx_ret1' Try.results50 rfl () (rv_tmp' rfl) (List.Sublist.refl _)

def impl_ints (k : Nat)  : Option ((List Int)) :=
 (apd 8 [] []) >>= fun r4 =>
 some r4

theorem impl_ints_sim {k : Nat}   {out : (List Int)} (hp : impl_ints k = some out) : Sx.Fn Try.prog 60 [Vn] [] (fun w : Unit => (Sl (Ki .i64) out)) (fun w => []) := by
 unfold impl_ints at hp
 refine fn_of Try.func60 rfl Try.ntmps60 rfl fun E hM => ?_
 refine cr fun K1 hK1 => ?_
 refine s0 (rd_assign' rfl) ?_
 refine nk hK1 ?_
 refine cr fun K2 hK2 => ?_
 refine s0 (rd_move' rfl) ?_
 refine tx_nilrow' (Ki .i64) 3 ?_
 obtain ⟨r4, hr4, hp⟩ := bind_some hp
 refine sx_ox' (ox_append' (K := (Ki .i64)) (i := 0) (xs := []) (ys := []) rfl rfl rfl (sr_nil' rfl Try.underlying34) hr4 Try.underlying34 info3 rfl rfl rfl (H' := []) rfl) (wt_none' rfl) fun g4 => ?_
 refine s0 (rd_assign' rfl) ?_
 refine nk hK2 ?_
 refine cx_retc' ?_
 replace hp := Option.some.inj hp
 subst hp
 refine tx_fz' (frz_row 0 [(2, (Vl (Vs g4)), (Sl (Ki .i64) r4)), (4, (Vl (Vs g4)), (Sl (Ki .i64) r4))] (K := (Ki .i64)) (xs := r4) (by decide) rfl ⟨⟨rfl, frz_it⟩, ⟨rfl, frz_it⟩, trivial⟩ (H' := []) frzH_refl) ?_
 refine tx_pick' (L' := [(2, (Sl (Ki .i64) r4))]) (H' := []) [] (sub_cons rfl sub_nil) (by decide) pick_nil ?_
 exact tx_ret1' Try.results60 rfl () (rv_tmp' rfl) (List.Sublist.refl _)

def impl_ints_v2 (k : Nat) (a0 : List Int) : Option ((List Int)) :=
 (apd 8 [] a0) >>= fun r4 =>
 some r4

theorem impl_ints_v2_sim {k : Nat}  (a0 : List Int) {out : (List Int)} (hp : impl_ints_v2 k a0 = some out) : Sx.Fn Try.prog 60 [(Sl (Ki .i64) a0)] [] (fun w : Unit => (Sl (Ki .i64) out)) (fun w => []) := by
 unfold impl_ints_v2 at hp
 refine fn_of Try.func60 rfl Try.ntmps60 rfl fun E hM => ?_
 refine cr fun K1 hK1 => ?_
 refine s0 (rd_assign' rfl) ?_
 refine nk hK1 ?_
 refine cr fun K2 hK2 => ?_
 refine s0 (rd_move' rfl) ?_
 refine tx_nilrow' (Ki .i64) 3 ?_
 obtain ⟨r4, hr4, hp⟩ := bind_some hp
 refine sx_ox' (ox_append' (K := (Ki .i64)) (i := 0) (xs := []) (ys := a0) rfl rfl rfl (sr_sl' rfl Try.underlying34) hr4 Try.underlying34 info3 rfl rfl rfl (H' := []) rfl) (wt_none' rfl) fun g4 => ?_
 refine s0 (rd_assign' rfl) ?_
 refine nk hK2 ?_
 refine cx_retc' ?_
 replace hp := Option.some.inj hp
 subst hp
 refine tx_fz' (frz_row 0 [(2, (Vl (Vs g4)), (Sl (Ki .i64) r4)), (4, (Vl (Vs g4)), (Sl (Ki .i64) r4))] (K := (Ki .i64)) (xs := r4) (by decide) rfl ⟨⟨rfl, frz_it⟩, ⟨rfl, frz_it⟩, trivial⟩ (H' := []) frzH_refl) ?_
 refine tx_pick' (L' := [(2, (Sl (Ki .i64) r4))]) (H' := []) [] (sub_cons rfl sub_nil) (by decide) pick_nil ?_
 exact tx_ret1' Try.results60 rfl () (rv_tmp' rfl) (List.Sublist.refl _)

def impl_Deflate2 (k : Nat) (a0 : List (List (List Nat))) (a1 : Int) : Option ((List Nat) × (List Int) × Bool) :=
 (impl_coords2 k a0) >>= fun r13 =>
 (gogeom_DoorDeflate2 k r13 a1) >>= fun r15 =>
 match r15 with
  | (.inl y2) =>
   ((impl_floats_v2 k) >>= fun r20 =>
   (impl_ints k) >>= fun r22 =>
   some (r20, r22, false))
  | (.inr y2) =>
   ((impl_floats k y2.2.1) >>= fun r20 =>
   (impl_ints_v2 k y2.2.2) >>= fun r22 =>
   some (r20, r22, true))

theorem impl_Deflate2_sim {k : Nat}  (a0 : List (List (List Nat))) (a1 : Int) {out : (List Nat) × (List Int) × Bool} (hp : impl_Deflate2 k a0 a1 = some out) : Sx.Fn Try.prog 19 [(Sl (Kl (Kl Kf)) a0), (Vi a1)] [] (fun w : Unit => (Tu [(Sl Kf out.1), (Sl (Ki .i64) out.2.1), (Vb out.2.2)])) (fun w => []) := by
 unfold impl_Deflate2 at hp
 refine fnD_of Try.func19 rfl Try.ntmps19 rfl fun E hM => ?_
 refine cr fun K1 hK1 => ?_
 refine sx_ox' (ox_alloc' info22 rfl rfl rfl rfl (l := [Vn]) rfl) (wt_none' rfl) fun q4 => ?_
 refine sx_ox' (ox_alloc' info34 rfl rfl rfl rfl (l := [Vn]) rfl) (wt_none' rfl) fun q5 => ?_
 refine sx_ox' (ox_alloc' info4 rfl rfl rfl rfl (l := [(Vb false)]) rfl) (wt_none' rfl) fun q6 => ?_
 refine nk hK1 ?_
 refine cr fun K2 hK2 => ?_
 refine s0 (rd_mkfunc' (us := [.pointer (some q4), .pointer (some q5), .pointer (some q6)]) rfl) ?_
 refine sx_ox' (ox_defer' rfl rfl) (wt_none' rfl) fun _ => ?_
 refine nk hK2 ?_
 refine cr fun K3 hK3 => ?_
 refine s0 (rd_move' rfl) ?_
 obtain ⟨r13, hr13, hp⟩ := bind_some hp
 refine sx_ox' (ox_calln' (ent_fn' Try.func59 isn59 rfl rfl) (impl_coords2_sim _ hr13 : Sx.Fn Try.prog 59 [(Sl (Kl (Kl Kf)) a0)] [] (fun x : Gs => (Vl (Vs x))) (fun x => [(Rw (Kl (Kl Kf)) 152 (Vs x) r13)])) (Hn := fun x : Gs => [(Rw (Kl (Kl Kf)) 152 (Vs x) r13), ⟨.pointer (some q6), [(Vb false)], 4, none⟩, ⟨.pointer (some q5), [Vn], 34, none⟩, ⟨.pointer (some q4), [Vn], 22, none⟩]) (fun _ => rfl) rfl rfl) (wt_none' rfl) fun g13 => ?_
 refine s0 (rd_move' rfl) ?_
 obtain ⟨r15, hr15, hp⟩ := bind_some hp
 rcases r15 with y2 | y2
 ·dsimp only at hp
  refine sx_ox' (ox_callg' (ent_fn' Try.func58 isn58 rfl rfl) (gogeom_DoorDeflate2_sim _ _ hr15 : Sx.Fn Try.prog 58 [(Vl (Vs g13)), (Vi a1)] [(Rw (Kl (Kl Kf)) 152 (Vs g13) r13)] (fun x : Unit => (Tu [Vn, Vn, (If 194 (Ag [(Vi y2.2.1), (Vi y2.2.2)]))])) (fun x => [(Rw (Kl (Kl Kf)) 152 (Vs g13) y2.1)])) [0] [1, 2, 3] (by decide) (pick_cons rfl pick_nil) (pick_cons rfl (pick_cons rfl (pick_cons rfl pick_nil))) (Hn := fun x : Unit => [(Rw (Kl (Kl Kf)) 152 (Vs g13) y2.1), ⟨.pointer (some q6), [(Vb false)], 4, none⟩, ⟨.pointer (some q5), [Vn], 34, none⟩, ⟨.pointer (some q4), [Vn], 22, none⟩]) (fun _ => rfl) rfl rfl) (wt_none' rfl) fun ⟨⟩ => ?_
  refine s0 (rd_move' rfl) ?_
  refine s0 (rd_extract' rfl rfl) ?_
  refine s0 (rd_extract' rfl rfl) ?_
  refine s0 (rd_extract' rfl rfl) ?_
  refine s0 (rd_assign' rfl) ?_
  refine s0 (rd_assign' rfl) ?_
  refine s0 (rd_assign' rfl) ?_
  refine nk hK3 ?_
  refine cx_seq' fun K4 hK4 => ?_
  refine cx_plana' [] [(6, 1), (7, 1), (8, 1)] [(0, 1), (2, 1), (4, 2)] 6 #[true, false, true, false, true, false, false, false, false] mixed (by kernel_rfl) ?_
  refine px_rd' rfl (rd_move' rfl) rfl rfl (wt_none' rfl) ?_
  refine px_rd' rfl (rd_move' rfl) rfl rfl (wt_none' rfl) ?_
  refine px_rb' rfl (rb_move' rfl) rfl rfl (wt_none' rfl) ?_
  refine px_nil' ?_
  show AX E _ _ _ _ _ _ _ _
  obtain ⟨r20, hr20, hp⟩ := bind_some hp
  obtain ⟨r22, hr22, hp⟩ := bind_some hp
  refine ax_node (f' := 0) #[true, true, true, true, true, true, true, true, true] (fun (v10 : Unit) => (⟨25, [⟨.fn (.func 57) ⟨[.pointer (some q4), .pointer (some q5), .pointer (some q6)]⟩, #[]⟩], [(4, (Vp q4)), (5, (Vp q5)), (6, (Vp q6))], [⟨.pointer (some q4), [(Sl Kf r20)], 22, none⟩, ⟨.pointer (some q5), [(Sl (Ki .i64) r22)], 34, none⟩, ⟨.pointer (some q6), [(Vb false)], 4, none⟩]⟩ : St)) ?_ ?_
  ·rintro ⟨⟩
   refine ax_nil (by kernel_rfl) ?_
   show TX E K4 _
   refine tx_k' hK4 ?_
   refine cx_retc' ?_
   replace hp := Option.some.inj hp
   subst hp
   refine tx_leave' (.inl rfl) rfl idle57 rfl Try.func57 isn57 rfl ?_
   refine tx_pick' (L' := [(4, (Vp q4)), (5, (Vp q5)), (6, (Vp q6))]) (H' := [⟨.pointer (some q4), [(Sl Kf r20)], 22, none⟩, ⟨.pointer (some q5), [(Sl (Ki .i64) r22)], 34, none⟩, ⟨.pointer (some q6), [(Vb false)], 4, none⟩]) [0, 1, 2] (sub_cons rfl (sub_cons rfl (sub_cons rfl sub_nil))) (by decide) (pick_cons rfl (pick_cons rfl (pick_cons rfl pick_nil))) ?_
   exact tx_ret3' Try.results19 rfl () (rv_cell' (i := 0) (o := 0) rfl ⟨rfl, rfl, rfl, rfl⟩ rfl flat22) (rv_cell' (i := 1) (o := 0) rfl ⟨rfl, rfl, rfl, rfl⟩ rfl flat34) (rv_cell' (i := 2) (o := 0) rfl ⟨rfl, rfl, rfl, rfl⟩ rfl flat4) rfl (List.nil_sublist _)
  intro hN11
  refine ax_node (f' := 1) #[true, true, true, true, true, true, true, true, false] (fun (v9 : Unit) => (⟨25, [⟨.fn (.func 57) ⟨[.pointer (some q4), .pointer (some q5), .pointer (some q6)]⟩, #[]⟩], [(4, (Vp q4)), (5, (Vp q5)), (6, (Vp q6)), (24, (Vb false))], [⟨.pointer (some q4), [(Sl Kf r20)], 22, none⟩, ⟨.pointer (some q5), [(Sl (Ki .i64) r22)], 34, none⟩, ⟨.pointer (some q6), [(Vb false)], 4, none⟩]⟩ : St)) ?_ ?_
  ·rintro ⟨⟩
   refine ax_all (i := 8) (is := []) (by kernel_rfl) (all_cons ?_ all_nil)
   ·refine nx_oxv (last := #[true, true, true, true, true, true, true, true, true]) rfl (oxv_store (i := 2) (o := 0) rfl rfl (lv_vl rfl rfl) ⟨rfl, rfl, rfl, rfl⟩ rfl info4 rfl (H' := [⟨.pointer (some q4), [(Sl Kf r20)], 22, none⟩, ⟨.pointer (some q5), [(Sl (Ki .i64) r22)], 34, none⟩, ⟨.pointer (some q6), [(Vb false)], 4, none⟩]) rfl) rfl rfl bo_nil (wt_none' rfl) rfl fun _ => ?_
    exact tx_pick' [0, 1, 2] (sub_cons rfl (sub_cons rfl (sub_cons rfl sub_nil))) (by decide) (pick_cons rfl (pick_cons rfl (pick_cons rfl pick_nil))) (hN11 ())
  intro hN10
  refine ax_node (f' := 2) #[true, true, true, true, true, true, true, false, false] (fun (v7 : Unit) => (⟨25, [⟨.fn (.func 57) ⟨[.pointer (some q4), .pointer (some q5), .pointer (some q6)]⟩, #[]⟩], [(4, (Vp q4)), (5, (Vp q5)), (6, (Vp q6)), (22, (Sl (Ki .i64) r22)), (24, (Vb false))], [⟨.pointer (some q4), [(Sl Kf r20)], 22, none⟩, ⟨.pointer (some q5), [Vn], 34, none⟩, ⟨.pointer (some q6), [(Vb false)], 4, none⟩]⟩ : St)) ?_ ?_
  ·rintro ⟨⟩
   refine ax_all (i := 7) (is := []) (by kernel_rfl) (all_cons ?_ all_nil)
   ·refine nx_oxv (last := #[true, true, true, true, true, true, true, true, false]) rfl (oxv_store (i := 1) (o := 0) rfl rfl (lv_sl _ _) ⟨rfl, rfl, rfl, rfl⟩ rfl info34 rfl (H' := [⟨.pointer (some q4), [(Sl Kf r20)], 22, none⟩, ⟨.pointer (some q5), [(Sl (Ki .i64) r22)], 34, none⟩, ⟨.pointer (some q6), [(Vb false)], 4, none⟩]) rfl) rfl rfl bo_nil (wt_none' rfl) rfl fun _ => ?_
    exact tx_pick' [0, 1, 2] (sub_cons rfl (sub_cons rfl (sub_cons rfl (sub_cons rfl sub_nil)))) (by decide) (pick_cons rfl (pick_cons rfl (pick_cons rfl pick_nil))) (hN10 ())
  intro hN8
  refine ax_node (f' := 2) #[true, true, true, true, true, false, true, true, false] (fun (v8 : Unit) => (⟨25, [⟨.fn (.func 57) ⟨[.pointer (some q4), .pointer (some q5), .pointer (some q6)]⟩, #[]⟩], [(4, (Vp q4)), (5, (Vp q5)), (6, (Vp q6)), (23, (If 194 (Ag [(Vi y2.2.1), (Vi y2.2.2)])))], [⟨.pointer (some q4), [(Sl Kf r20)], 22, none⟩, ⟨.pointer (some q5), [(Sl (Ki .i64) r22)], 34, none⟩, ⟨.pointer (some q6), [(Vb false)], 4, none⟩]⟩ : St)) ?_ ?_
  ·rintro ⟨⟩
   refine ax_rd (ix := 5) (last := #[true, true, true, true, true, true, true, true, false]) (by kernel_rfl) rfl (rd_binf' rfl rfl (bf_if (fun _ _ => by kernel_rfl) nil_eql113_if194)) rfl rfl (wt_none' rfl) rfl ?_
   exact tx_pick' [0, 1, 2] (sub_cons rfl (sub_cons rfl (sub_cons rfl (sub_cons rfl sub_nil)))) (by decide) (pick_cons rfl (pick_cons rfl (pick_cons rfl pick_nil))) (hN10 ())
  intro hN9
  refine ax_node (f' := 3) #[true, true, true, true, true, true, false, false, false] (fun (v5 : Unit) => (⟨25, [⟨.fn (.func 57) ⟨[.pointer (some q4), .pointer (some q5), .pointer (some q6)]⟩, #[]⟩], [(4, (Vp q4)), (5, (Vp q5)), (6, (Vp q6)), (20, (Sl Kf r20)), (22, (Sl (Ki .i64) r22)), (24, (Vb false))], [⟨.pointer (some q4), [Vn], 22, none⟩, ⟨.pointer (some q5), [Vn], 34, none⟩, ⟨.pointer (some q6), [(Vb false)], 4, none⟩]⟩ : St)) ?_ ?_
  ·rintro ⟨⟩
   refine ax_all (i := 6) (is := []) (by kernel_rfl) (all_cons ?_ all_nil)
   ·refine nx_oxv (last := #[true, true, true, true, true, true, true, false, false]) rfl (oxv_store (i := 0) (o := 0) rfl rfl (lv_sl _ _) ⟨rfl, rfl, rfl, rfl⟩ rfl info22 rfl (H' := [⟨.pointer (some q4), [(Sl Kf r20)], 22, none⟩, ⟨.pointer (some q5), [Vn], 34, none⟩, ⟨.pointer (some q6), [(Vb false)], 4, none⟩]) rfl) rfl rfl bo_nil (wt_none' rfl) rfl fun _ => ?_
    exact tx_pick' [0, 1, 2] (sub_cons rfl (sub_cons rfl (sub_cons rfl (sub_cons rfl (sub_cons rfl sub_nil))))) (by decide) (pick_cons rfl (pick_cons rfl (pick_cons rfl pick_nil))) (hN8 ())
  intro hN6
  refine ax_node (f' := 3) #[true, true, true, true, true, false, true, false, false] (fun (v6 : Unit) => (⟨25, [⟨.fn (.func 57) ⟨[.pointer (some q4), .pointer (some q5), .pointer (some q6)]⟩, #[]⟩], [(4, (Vp q4)), (5, (Vp q5)), (6, (Vp q6)), (22, (Sl (Ki .i64) r22)), (23, (If 194 (Ag [(Vi y2.2.1), (Vi y2.2.2)])))], [⟨.pointer (some q4), [(Sl Kf r20)], 22, none⟩, ⟨.pointer (some q5), [Vn], 34, none⟩, ⟨.pointer (some q6), [(Vb false)], 4, none⟩]⟩ : St)) ?_ ?_
  ·rintro ⟨⟩
   refine ax_all (i := 5) (is := [7]) (by kernel_rfl) (all_cons ?_ (all_cons ?_ all_nil))
   ·refine nx_rd (last := #[true, true, true, true, true, true, true, false, false]) rfl (rd_binf' rfl rfl (bf_if (fun _ _ => by kernel_rfl) nil_eql113_if194)) rfl rfl (wt_none' rfl) rfl ?_
    exact tx_pick' [0, 1, 2] (sub_cons rfl (sub_cons rfl (sub_cons rfl (sub_cons rfl (sub_cons rfl sub_nil))))) (by decide) (pick_cons rfl (pick_cons rfl (pick_cons rfl pick_nil))) (hN8 ())
   refine nx_oxv (last := #[true, true, true, true, true, false, true, true, false]) rfl (oxv_store (i := 1) (o := 0) rfl rfl (lv_sl _ _) ⟨rfl, rfl, rfl, rfl⟩ rfl info34 rfl (H' := [⟨.pointer (some q4), [(Sl Kf r20)], 22, none⟩, ⟨.pointer (some q5), [(Sl (Ki .i64) r22)], 34, none⟩, ⟨.pointer (some q6), [(Vb false)], 4, none⟩]) rfl) rfl rfl bo_nil (wt_none' rfl) rfl fun _ => ?_
   exact tx_pick' [0, 1, 2] (sub_cons rfl (sub_cons rfl (sub_cons rfl (sub_cons rfl sub_nil)))) (by decide) (pick_cons rfl (pick_cons rfl (pick_cons rfl pick_nil))) (hN9 ())
  intro hN7
  refine ax_node (f' := 4) #[true, true, true, true, true, false, false, false, false] (fun (v3 : Unit) => (⟨25, [⟨.fn (.func 57) ⟨[.pointer (some q4), .pointer (some q5), .pointer (some q6)]⟩, #[]⟩], [(4, (Vp q4)), (5, (Vp q5)), (6, (Vp q6)), (20, (Sl Kf r20)), (22, (Sl (Ki .i64) r22)), (23, (If 194 (Ag [(Vi y2.2.1), (Vi y2.2.2)])))], [⟨.pointer (some q4), [Vn], 22, none⟩, ⟨.pointer (some q5), [Vn], 34, none⟩, ⟨.pointer (some q6), [(Vb false)], 4, none⟩]⟩ : St)) ?_ ?_
  ·rintro ⟨⟩
   refine ax_all (i := 5) (is := [6]) (by kernel_rfl) (all_cons ?_ (all_cons ?_ all_nil))
   ·refine nx_rd (last := #[true, true, true, true, true, true, false, false, false]) rfl (rd_binf' rfl rfl (bf_if (fun _ _ => by kernel_rfl) nil_eql113_if194)) rfl rfl (wt_none' rfl) rfl ?_
    exact tx_pick' [0, 1, 2] (sub_cons rfl (sub_cons rfl (sub_cons rfl (sub_cons rfl (sub_cons rfl (sub_cons rfl sub_nil)))))) (by decide) (pick_cons rfl (pick_cons rfl (pick_cons rfl pick_nil))) (hN6 ())
   refine nx_oxv (last := #[true, true, true, true, true, false, true, false, false]) rfl (oxv_store (i := 0) (o := 0) rfl rfl (lv_sl _ _) ⟨rfl, rfl, rfl, rfl⟩ rfl info22 rfl (H' := [⟨.pointer (some q4), [(Sl Kf r20)], 22, none⟩, ⟨.pointer (some q5), [Vn], 34, none⟩, ⟨.pointer (some q6), [(Vb false)], 4, none⟩]) rfl) rfl rfl bo_nil (wt_none' rfl) rfl fun _ => ?_
   exact tx_pick' [0, 1, 2] (sub_cons rfl (sub_cons rfl (sub_cons rfl (sub_cons rfl (sub_cons rfl sub_nil))))) (by decide) (pick_cons rfl (pick_cons rfl (pick_cons rfl pick_nil))) (hN7 ())
  intro hN4
  refine ax_node (f' := 4) #[true, true, true, false, true, true, false, false, false] (fun (v4 : Unit) => (⟨25, [⟨.fn (.func 57) ⟨[.pointer (some q4), .pointer (some q5), .pointer (some q6)]⟩, #[]⟩], [(4, (Vp q4)), (5, (Vp q5)), (6, (Vp q6)), (20, (Sl Kf r20)), (21, Vn), (24, (Vb false))], [⟨.pointer (some q4), [Vn], 22, none⟩, ⟨.pointer (some q5), [Vn], 34, none⟩, ⟨.pointer (some q6), [(Vb false)], 4, none⟩]⟩ : St)) ?_ ?_
  ·rintro ⟨⟩
   refine ax_all (i := 3) (is := []) (by kernel_rfl) (all_cons ?_ all_nil)
   ·refine nx_ox (last := #[true, true, true, true, true, true, false, false, false]) rfl (ox_calln' (ent_fn' Try.func60 isn60 rfl rfl) (impl_ints_sim hr22 : Sx.Fn Try.prog 60 [Vn] [] (fun x : Unit => (Sl (Ki .i64) r22)) (fun x => [])) (Hn := fun x : Unit => [⟨.pointer (some q4), [Vn], 22, none⟩, ⟨.pointer (some q5), [Vn], 34, none⟩, ⟨.pointer (some q6), [(Vb false)], 4, none⟩]) (fun _ => rfl) rfl rfl) rfl bs_nil (wt_none' rfl) rfl fun ⟨⟩ => ?_
    exact tx_pick' [0, 1, 2] (sub_cons rfl (sub_cons rfl (sub_cons rfl (sub_cons rfl (sub_cons rfl (sub_cons rfl sub_nil)))))) (by decide) (pick_cons rfl (pick_cons rfl (pick_cons rfl pick_nil))) (hN6 ())
  intro hN5
  refine ax_node (f' := 5) #[true, true, true, false, true, false, false, false, false] (fun (v1 : Unit) => (⟨25, [⟨.fn (.func 57) ⟨[.pointer (some q4), .pointer (some q5), .pointer (some q6)]⟩, #[]⟩], [(4, (Vp q4)), (5, (Vp q5)), (6, (Vp q6)), (20, (Sl Kf r20)), (21, Vn), (23, (If 194 (Ag [(Vi y2.2.1), (Vi y2.2.2)])))], [⟨.pointer (some q4), [Vn], 22, none⟩, ⟨.pointer (some q5), [Vn], 34, none⟩, ⟨.pointer (some q6), [(Vb false)], 4, none⟩]⟩ : St)) ?_ ?_
  ·rintro ⟨⟩
   refine ax_all (i := 3) (is := [5]) (by kernel_rfl) (all_cons ?_ (all_cons ?_ all_nil))
   ·refine nx_ox (last := #[true, true, true, true, true, false, false, false, false]) rfl (ox_calln' (ent_fn' Try.func60 isn60 rfl rfl) (impl_ints_sim hr22 : Sx.Fn Try.prog 60 [Vn] [] (fun x : Unit => (Sl (Ki .i64) r22)) (fun x => [])) (Hn := fun x : Unit => [⟨.pointer (some q4), [Vn], 22, none⟩, ⟨.pointer (some q5), [Vn], 34, none⟩, ⟨.pointer (some q6), [(Vb false)], 4, none⟩]) (fun _ => rfl) rfl rfl) rfl bs_nil (wt_none' rfl) rfl fun ⟨⟩ => ?_
    exact tx_pick' [0, 1, 2] (sub_cons rfl (sub_cons rfl (sub_cons rfl (sub_cons rfl (sub_cons rfl (sub_cons rfl sub_nil)))))) (by decide) (pick_cons rfl (pick_cons rfl (pick_cons rfl pick_nil))) (hN4 ())
   refine nx_rd (last := #[true, true, true, false, true, true, false, false, false]) rfl (rd_binf' rfl rfl (bf_if (fun _ _ => by kernel_rfl) nil_eql113_if194)) rfl rfl (wt_none' rfl) rfl ?_
   exact tx_pick' [0, 1, 2] (sub_cons rfl (sub_cons rfl (sub_cons rfl (sub_cons rfl (sub_cons rfl (sub_cons rfl sub_nil)))))) (by decide) (pick_cons rfl (pick_cons rfl (pick_cons rfl pick_nil))) (hN5 ())
  intro hN2
  refine ax_node (f' := 5) #[true, false, true, false, true, true, false, false, false] (fun (v2 : Unit) => (⟨25, [⟨.fn (.func 57) ⟨[.pointer (some q4), .pointer (some q5), .pointer (some q6)]⟩, #[]⟩], [(4, (Vp q4)), (5, (Vp q5)), (6, (Vp q6)), (19, Vn), (21, Vn), (24, (Vb false))], [⟨.pointer (some q4), [Vn], 22, none⟩, ⟨.pointer (some q5), [Vn], 34, none⟩, ⟨.pointer (some q6), [(Vb false)], 4, none⟩]⟩ : St)) ?_ ?_
  ·rintro ⟨⟩
   refine ax_all (i := 1) (is := []) (by kernel_rfl) (all_cons ?_ all_nil)
   ·refine nx_ox (last := #[true, true, true, false, true, true, false, false, false]) rfl (ox_calln' (ent_fn' Try.func50 isn50 rfl rfl) (impl_floats_v2_sim hr20 : Sx.Fn Try.prog 50 [Vn] [] (fun x : Unit => (Sl Kf r20)) (fun x => [])) (Hn := fun x : Unit => [⟨.pointer (some q4), [Vn], 22, none⟩, ⟨.pointer (some q5), [Vn], 34, none⟩, ⟨.pointer (some q6), [(Vb false)], 4, none⟩]) (fun _ => rfl) rfl rfl) rfl bs_nil (wt_none' rfl) rfl fun ⟨⟩ => ?_
    exact tx_pick' [0, 1, 2] (sub_cons rfl (sub_cons rfl (sub_cons rfl (sub_cons rfl (sub_cons rfl (sub_cons rfl sub_nil)))))) (by decide) (pick_cons rfl (pick_cons rfl (pick_cons rfl pick_nil))) (hN5 ())
  intro hN3
  refine ax_all (i := 1) (is := [5]) (by kernel_rfl) (all_cons ?_ (all_cons ?_ all_nil))
  ·refine nx_ox (last := #[true, true, true, false, true, false, false, false, false]) rfl (ox_calln' (ent_fn' Try.func50 isn50 rfl rfl) (impl_floats_v2_sim hr20 : Sx.Fn Try.prog 50 [Vn] [] (fun x : Unit => (Sl Kf r20)) (fun x => [])) (Hn := fun x : Unit => [(Rw (Kl (Kl Kf)) 152 (Vs g13) y2.1), ⟨.pointer (some q6), [(Vb false)], 4, none⟩, ⟨.pointer (some q5), [Vn], 34, none⟩, ⟨.pointer (some q4), [Vn], 22, none⟩]) (fun _ => rfl) rfl rfl) rfl bs_nil (wt_none' rfl) rfl fun ⟨⟩ => ?_
   exact tx_pick' [3, 2, 1] (sub_cons rfl (sub_cons rfl (sub_cons rfl (sub_cons rfl (sub_cons rfl (sub_cons rfl sub_nil)))))) (by decide) (pick_cons rfl (pick_cons rfl (pick_cons rfl pick_nil))) (hN2 ())
  refine nx_rd (last := #[true, false, true, false, true, true, false, false, false]) rfl (rd_binf' rfl rfl (bf_if (fun _ _ => by kernel_rfl) nil_eql113_if194)) rfl rfl (wt_none' rfl) rfl ?_
  exact tx_pick' [3, 2, 1] (sub_cons rfl (sub_cons rfl (sub_cons rfl (sub_cons rfl (sub_cons rfl (sub_cons rfl sub_nil)))))) (by decide) (pick_cons rfl (pick_cons rfl (pick_cons rfl pick_nil))) (hN3 ())
 dsimp only at hp
 refine sx_ox' (ox_callg' (ent_fn' Try.func58 isn58 rfl rfl) (gogeom_DoorDeflate2_sim _ _ hr15 : Sx.Fn Try.prog 58 [(Vl (Vs g13)), (Vi a1)] [(Rw (Kl (Kl Kf)) 152 (Vs g13) r13)] (fun x : Unit => (Tu [(Sl Kf y2.2.1), (Sl (Ki .i64) y2.2.2), Ve])) (fun x => [(Rw (Kl (Kl Kf)) 152 (Vs g13) y2.1)])) [0] [1, 2, 3] (by decide) (pick_cons rfl pick_nil) (pick_cons rfl (pick_cons rfl (pick_cons rfl pick_nil))) (Hn := fun x : Unit => [(Rw (Kl (Kl Kf)) 152 (Vs g13) y2.1), ⟨.pointer (some q6), [(Vb false)], 4, none⟩, ⟨.pointer (some q5), [Vn], 34, none⟩, ⟨.pointer (some q4), [Vn], 22, none⟩]) (fun _ => rfl) rfl rfl) (wt_none' rfl) fun ⟨⟩ => ?_
 refine s0 (rd_move' rfl) ?_
 refine s0 (rd_extract' rfl rfl) ?_
 refine s0 (rd_extract' rfl rfl) ?_
 refine s0 (rd_extract' rfl rfl) ?_
 refine s0 (rd_assign' rfl) ?_
 refine s0 (rd_assign' rfl) ?_
 refine s0 (rd_assign' rfl) ?_
 refine nk hK3 ?_
 refine cx_seq' fun K4 hK4 => ?_
 refine cx_plana' [] [(6, 1), (7, 1), (8, 1)] [(0, 1), (2, 1), (4, 2)] 6 #[true, false, true, false, true, false, false, false, false] mixed (by kernel_rfl) ?_
 refine px_rd' rfl (rd_move' rfl) rfl rfl (wt_none' rfl) ?_
 refine px_rd' rfl (rd_move' rfl) rfl rfl (wt_none' rfl) ?_
 refine px_rb' rfl (rb_move' rfl) rfl rfl (wt_none' rfl) ?_
 refine px_nil' ?_
 show AX E _ _ _ _ _ _ _ _
 obtain ⟨r20, hr20, hp⟩ := bind_some hp
 obtain ⟨r22, hr22, hp⟩ := bind_some hp
 refine ax_node (f' := 0) #[true, true, true, true, true, true, true, true, true] (fun (v10 : Unit) => (⟨25, [⟨.fn (.func 57) ⟨[.pointer (some q4), .pointer (some q5), .pointer (some q6)]⟩, #[]⟩], [(4, (Vp q4)), (5, (Vp q5)), (6, (Vp q6))], [⟨.pointer (some q4), [(Sl Kf r20)], 22, none⟩, ⟨.pointer (some q5), [(Sl (Ki .i64) r22)], 34, none⟩, ⟨.pointer (some q6), [(Vb true)], 4, none⟩]⟩ : St)) ?_ ?_
 ·rintro ⟨⟩
  refine ax_nil (by kernel_rfl) ?_
  show TX E K4 _
  refine tx_k' hK4 ?_
  refine cx_retc' ?_
  replace hp := Option.some.inj hp
  subst hp
  refine tx_leave' (.inl rfl) rfl idle57 rfl Try.func57 isn57 rfl ?_
  refine tx_pick' (L' := [(4, (Vp q4)), (5, (Vp q5)), (6, (Vp q6))]) (H' := [⟨.pointer (some q4), [(Sl Kf r20)], 22, none⟩, ⟨.pointer (some q5), [(Sl (Ki .i64) r22)], 34, none⟩, ⟨.pointer (some q6), [(Vb true)], 4, none⟩]) [0, 1, 2] (sub_cons rfl (sub_cons rfl (sub_cons rfl sub_nil))) (by decide) (pick_cons rfl (pick_cons rfl (pick_cons rfl pick_nil))) ?_
  exact tx_ret3' Try.results19 rfl () (rv_cell' (i := 0) (o := 0) rfl ⟨rfl, rfl, rfl, rfl⟩ rfl flat22) (rv_cell' (i := 1) (o := 0) rfl ⟨rfl, rfl, rfl, rfl⟩ rfl flat34) (rv_cell' (i := 2) (o := 0) rfl ⟨rfl, rfl, rfl, rfl⟩ rfl flat4) rfl (List.nil_sublist _)
 intro hN11
 refine ax_node (f' := 1) #[true, true, true, true, true, true, true, true, false] (fun (v9 : Unit) => (⟨25, [⟨.fn (.func 57) ⟨[.pointer (some q4), .pointer (some q5), .pointer (some q6)]⟩, #[]⟩], [(4, (Vp q4)), (5, (Vp q5)), (6, (Vp q6)), (24, (Vb true))], [⟨.pointer (some q4), [(Sl Kf r20)], 22, none⟩, ⟨.pointer (some q5), [(Sl (Ki .i64) r22)], 34, none⟩, ⟨.pointer (some q6), [(Vb false)], 4, none⟩]⟩ : St)) ?_ ?_
 ·rintro ⟨⟩
  refine ax_all (i := 8) (is := []) (by kernel_rfl) (all_cons ?_ all_nil)
  ·refine nx_oxv (last := #[true, true, true, true, true, true, true, true, true]) rfl (oxv_store (i := 2) (o := 0) rfl rfl (lv_vl rfl rfl) ⟨rfl, rfl, rfl, rfl⟩ rfl info4 rfl (H' := [⟨.pointer (some q4), [(Sl Kf r20)], 22, none⟩, ⟨.pointer (some q5), [(Sl (Ki .i64) r22)], 34, none⟩, ⟨.pointer (some q6), [(Vb true)], 4, none⟩]) rfl) rfl rfl bo_nil (wt_none' rfl) rfl fun _ => ?_
   exact tx_pick' [0, 1, 2] (sub_cons rfl (sub_cons rfl (sub_cons rfl sub_nil))) (by decide) (pick_cons rfl (pick_cons rfl (pick_cons rfl pick_nil))) (hN11 ())
 intro hN10
 refine ax_node (f' := 2) #[true, true, true, true, true, true, true, false, false] (fun (v7 : Unit) => (⟨25, [⟨.fn (.func 57) ⟨[.pointer (some q4), .pointer (some q5), .pointer (some q6)]⟩, #[]⟩], [(4, (Vp q4)), (5, (Vp q5)), (6, (Vp q6)), (22, (Sl (Ki .i64) r22)), (24, (Vb true))], [⟨.pointer (some q4), [(Sl Kf r20)], 22, none⟩, ⟨.pointer (some q5), [Vn], 34, none⟩, ⟨.pointer (some q6), [(Vb false)], 4, none⟩]⟩ : St)) ?_ ?_
 ·rintro ⟨⟩
  refine ax_all (i := 7) (is := []) (by kernel_rfl) (all_cons ?_ all_nil)
  ·refine nx_oxv (last := #[true, true, true, true, true, true, true, true, false]) rfl (oxv_store (i := 1) (o := 0) rfl rfl (lv_sl _ _) ⟨rfl, rfl, rfl, rfl⟩ rfl info34 rfl (H' := [⟨.pointer (some q4), [(Sl Kf r20)], 22, none⟩, ⟨.pointer (some q5), [(Sl (Ki .i64) r22)], 34, none⟩, ⟨.pointer (some q6), [(Vb false)], 4, none⟩]) rfl) rfl rfl bo_nil (wt_none' rfl) rfl fun _ => ?_
   exact tx_pick' [0, 1, 2] (sub_cons rfl (sub_cons rfl (sub_cons rfl (sub_cons rfl sub_nil)))) (by decide) (pick_cons rfl (pick_cons rfl (pick_cons rfl pick_nil))) (hN10 ())
 intro hN8
 refine ax_node (f' := 2) #[true, true, true, true, true, false, true, true, false] (fun (v8 : Unit) => (⟨25, [⟨.fn (.func 57) ⟨[.pointer (some q4), .pointer (some q5), .pointer (some q6)]⟩, #[]⟩], [(4, (Vp q4)), (5, (Vp q5)), (6, (Vp q6)), (23, Ve)], [⟨.pointer (some q4), [(Sl Kf r20)], 22, none⟩, ⟨.pointer (some q5), [(Sl (Ki .i64) r22)], 34, none⟩, ⟨.pointer (some q6), [(Vb false)], 4, none⟩]⟩ : St)) ?_ ?_
 ·rintro ⟨⟩
  refine ax_rd (ix := 5) (last := #[true, true, true, true, true, true, true, true, false]) (by kernel_rfl) rfl (rd_binf' rfl rfl (bf_vl (fun _ => by kernel_rfl) nil_eql113_nilif)) rfl rfl (wt_none' rfl) rfl ?_
  exact tx_pick' [0, 1, 2] (sub_cons rfl (sub_cons rfl (sub_cons rfl (sub_cons rfl sub_nil)))) (by decide) (pick_cons rfl (pick_cons rfl (pick_cons rfl pick_nil))) (hN10 ())
 intro hN9
 refine ax_node (f' := 3) #[true, true, true, true, true, true, false, false, false] (fun (v5 : Unit) => (⟨25, [⟨.fn (.func 57) ⟨[.pointer (some q4), .pointer (some q5), .pointer (some q6)]⟩, #[]⟩], [(4, (Vp q4)), (5, (Vp q5)), (6, (Vp q6)), (20, (Sl Kf r20)), (22, (Sl (Ki .i64) r22)), (24, (Vb true))], [⟨.pointer (some q4), [Vn], 22, none⟩, ⟨.pointer (some q5), [Vn], 34, none⟩, ⟨.pointer (some q6), [(Vb false)], 4, none⟩]⟩ : St)) ?_ ?_
 ·rintro ⟨⟩
  refine ax_all (i := 6) (is := []) (by kernel_rfl) (all_cons ?_ all_nil)
  ·refine nx_oxv (last := #[true, true, true, true, true, true, true, false, false]) rfl (oxv_store (i := 0) (o := 0) rfl rfl (lv_sl _ _) ⟨rfl, rfl, rfl, rfl⟩ rfl info22 rfl (H' := [⟨.pointer (some q4), [(Sl Kf r20)], 22, none⟩, ⟨.pointer (some q5), [Vn], 34, none⟩, ⟨.pointer (some q6), [(Vb false)], 4, none⟩]) rfl) rfl rfl bo_nil (wt_none' rfl) rfl fun _ => ?_
   exact tx_pick' [0, 1, 2] (sub_cons rfl (sub_cons rfl (sub_cons rfl (sub_cons rfl (sub_cons rfl sub_nil))))) (by decide) (pick_cons rfl (pick_cons rfl (pick_cons rfl pick_nil))) (hN8 ())
 intro hN6
 refine ax_node (f' := 3) #[true, true, true, true, true, false, true, false, false] (fun (v6 : Unit) => (⟨25, [⟨.fn (.func 57) ⟨[.pointer (some q4), .pointer (some q5), .pointer (some q6)]⟩, #[]⟩], [(4, (Vp q4)), (5, (Vp q5)), (6, (Vp q6)), (22, (Sl (Ki .i64) r22)), (23, Ve)], [⟨.pointer (some q4), [(Sl Kf r20)], 22, none⟩, ⟨.pointer (some q5), [Vn], 34, none⟩, ⟨.pointer (some q6), [(Vb false)], 4, none⟩]⟩ : St)) ?_ ?_
 ·rintro ⟨⟩
  refine ax_all (i := 5) (is := [7]) (by kernel_rfl) (all_cons ?_ (all_cons ?_ all_nil))
  ·refine nx_rd (last := #[true, true, true, true, true, true, true, false, false]) rfl (rd_binf' rfl rfl (bf_vl (fun _ => by kernel_rfl) nil_eql113_nilif)) rfl rfl (wt_none' rfl) rfl ?_
   exact tx_pick' [0, 1, 2] (sub_cons rfl (sub_cons rfl (sub_cons rfl (sub_cons rfl (sub_cons rfl sub_nil))))) (by decide) (pick_cons rfl (pick_cons rfl (pick_cons rfl pick_nil))) (hN8 ())
  refine nx_oxv (last := #[true, true, true, true, true, false, true, true, false]) rfl (oxv_store (i := 1) (o := 0) rfl rfl (lv_sl _ _) ⟨rfl, rfl, rfl, rfl⟩ rfl info34 rfl (H' := [⟨.pointer (some q4), [(Sl Kf r20)], 22, none⟩, ⟨.pointer (some q5), [(Sl (Ki .i64) r22)], 34, none⟩, ⟨.pointer (some q6), [(Vb false)], 4, none⟩]) rfl) rfl rfl bo_nil (wt_none' rfl) rfl fun _ => ?_
  exact tx_pick' [0, 1, 2] (sub_cons rfl (sub_cons rfl (sub_cons rfl (sub_cons rfl sub_nil)))) (by decide) (pick_cons rfl (pick_cons rfl (pick_cons rfl pick_nil))) (hN9 ())
 intro hN7
 refine ax_node (f' := 4) #[true, true, true, true, true, false, false, false, false] (fun (v3 : Unit) => (⟨25, [⟨.fn (.func 57) ⟨[.pointer (some q4), .pointer (some q5), .pointer (some q6)]⟩, #[]⟩], [(4, (Vp q4)), (5, (Vp q5)), (6, (Vp q6)), (20, (Sl Kf r20)), (22, (Sl (Ki .i64) r22)), (23, Ve)], [⟨.pointer (some q4), [Vn], 22, none⟩, ⟨.pointer (some q5), [Vn], 34, none⟩, ⟨.pointer (some q6), [(Vb false)], 4, none⟩]⟩ : St)) ?_ ?_
 ·rintro ⟨⟩
  refine ax_all (i := 5) (is := [6]) (by kernel_rfl) (all_cons ?_ (all_cons ?_ all_nil))
  ·refine nx_rd (last := #[true, true, true, true, true, true, false, false, false]) rfl (rd_binf' rfl rfl (bf_vl (fun _ => by kernel_rfl) nil_eql113_nilif)) rfl rfl (wt_none' rfl) rfl ?_
   exact tx_pick' [0, 1, 2] (sub_cons rfl (sub_cons rfl (sub_cons rfl (sub_cons rfl (sub_cons rfl (sub_cons rfl sub_nil)))))) (by decide) (pick_cons rfl (pick_cons rfl (pick_cons rfl pick_nil))) (hN6 ())
  refine nx_oxv (last := #[true, true, true, true, true, false, true, false, false]) rfl (oxv_store (i := 0) (o := 0) rfl rfl (lv_sl _ _) ⟨rfl, rfl, rfl, rfl⟩ rfl info22 rfl (H' := [⟨.pointer (some q4), [(Sl Kf r20)], 22, none⟩, ⟨.pointer (some q5), [Vn], 34, none⟩, ⟨.pointer (some q6), [(Vb false)], 4, none⟩]) rfl) rfl rfl bo_nil (wt_none' rfl) rfl fun _ => ?_
  exact tx_pick' [0, 1, 2] (sub_cons rfl (sub_cons rfl (sub_cons rfl (sub_cons rfl (sub_cons rfl sub_nil))))) (by decide) (pick_cons rfl (pick_cons rfl (pick_cons rfl pick_nil))) (hN7 ())
 intro hN4
 refine ax_node (f' := 4) #[true, true, true, false, true, true, false, false, false] (fun (v4 : Unit) => (⟨25, [⟨.fn (.func 57) ⟨[.pointer (some q4), .pointer (some q5), .pointer (some q6)]⟩, #[]⟩], [(4, (Vp q4)), (5, (Vp q5)), (6, (Vp q6)), (20, (Sl Kf r20)), (21, (Sl (Ki .i64) y2.2.2)), (24, (Vb true))], [⟨.pointer (some q4), [Vn], 22, none⟩, ⟨.pointer (some q5), [Vn], 34, none⟩, ⟨.pointer (some q6), [(Vb false)], 4, none⟩]⟩ : St)) ?_ ?_
 ·rintro ⟨⟩
  refine ax_all (i := 3) (is := []) (by kernel_rfl) (all_cons ?_ all_nil)
  ·refine nx_ox (last := #[true, true, true, true, true, true, false, false, false]) rfl (ox_calln' (ent_fn' Try.func60 isn60 rfl rfl) (impl_ints_v2_sim _ hr22 : Sx.Fn Try.prog 60 [(Sl (Ki .i64) y2.2.2)] [] (fun x : Unit => (Sl (Ki .i64) r22)) (fun x => [])) (Hn := fun x : Unit => [⟨.pointer (some q4), [Vn], 22, none⟩, ⟨.pointer (some q5), [Vn], 34, none⟩, ⟨.pointer (some q6), [(Vb false)], 4, none⟩]) (fun _ => rfl) rfl rfl) rfl bs_nil (wt_none' rfl) rfl fun ⟨⟩ => ?_
   exact tx_pick' [0, 1, 2] (sub_cons rfl (sub_cons rfl (sub_cons rfl (sub_cons rfl (sub_cons rfl (sub_cons rfl sub_nil)))))) (by decide) (pick_cons rfl (pick_cons rfl (pick_cons rfl pick_nil))) (hN6 ())
 intro hN5
 refine ax_node (f' := 5) #[true, true, true, false, true, false, false, false, false] (fun (v1 : Unit) => (⟨25, [⟨.fn (.func 57) ⟨[.pointer (some q4), .pointer (some q5), .pointer (some q6)]⟩, #[]⟩], [(4, (Vp q4)), (5, (Vp q5)), (6, (Vp q6)), (20, (Sl Kf r20)), (21, (Sl (Ki .i64) y2.2.2)), (23, Ve)], [⟨.pointer (some q4), [Vn], 22, none⟩, ⟨.pointer (some q5), [Vn], 34, none⟩, ⟨.pointer (some q6), [(Vb false)], 4, none⟩]⟩ : St)) ?_ ?_
 ·rintro ⟨⟩
  refine ax_all (i := 3) (is := [5]) (by kernel_rfl) (all_cons ?_ (all_cons ?_ all_nil))
  ·refine nx_ox (last := #[true, true, true, true, true, false, false, false, false]) rfl (ox_calln' (ent_fn' Try.func60 isn60 rfl rfl) (impl_ints_v2_sim _ hr22 : Sx.Fn Try.prog 60 [(Sl (Ki .i64) y2.2.2)] [] (fun x : Unit => (Sl (Ki .i64) r22)) (fun x => [])) (Hn := fun x : Unit => [⟨.pointer (some q4), [Vn], 22, none⟩, ⟨.pointer (some q5), [Vn], 34, none⟩, ⟨.pointer (some q6), [(Vb false)], 4, none⟩]) (fun _ => rfl) rfl rfl) rfl bs_nil (wt_none' rfl) rfl fun ⟨⟩ => ?_
   exact tx_pick' [0, 1, 2] (sub_cons rfl (sub_cons rfl (sub_cons rfl (sub_cons rfl (sub_cons rfl (sub_cons rfl sub_nil)))))) (by decide) (pick_cons rfl (pick_cons rfl (pick_cons rfl pick_nil))) (hN4 ())
  refine nx_rd (last := #[true, true, true, false, true, true, false, false, false]) rfl (rd_binf' rfl rfl (bf_vl (fun _ => by kernel_rfl) nil_eql113_nilif)) rfl rfl (wt_none' rfl) rfl ?_
  exact tx_pick' [0, 1, 2] (sub_cons rfl (sub_cons rfl (sub_cons rfl (sub_cons rfl (sub_cons rfl (sub_cons rfl sub_nil)))))) (by decide) (pick_cons rfl (pick_cons rfl (pick_cons rfl pick_nil))) (hN5 ())
 intro hN2
 refine ax_node (f' := 5) #[true, false, true, false, true, true, false, false, false] (fun (v2 : Unit) => (⟨25, [⟨.fn (.func 57) ⟨[.pointer (some q4), .pointer (some q5), .pointer (some q6)]⟩, #[]⟩], [(4, (Vp q4)), (5, (Vp q5)), (6, (Vp q6)), (19, (Sl Kf y2.2.1)), (21, (Sl (Ki .i64) y2.2.2)), (24, (Vb true))], [⟨.pointer (some q4), [Vn], 22, none⟩, ⟨.pointer (some q5), [Vn], 34, none⟩, ⟨.pointer (some q6), [(Vb false)], 4, none⟩]⟩ : St)) ?_ ?_
 ·rintro ⟨⟩
  refine ax_all (i := 1) (is := []) (by kernel_rfl) (all_cons ?_ all_nil)
  ·refine nx_ox (last := #[true, true, true, false, true, true, false, false, false]) rfl (ox_calln' (ent_fn' Try.func50 isn50 rfl rfl) (impl_floats_sim _ hr20 : Sx.Fn Try.prog 50 [(Sl Kf y2.2.1)] [] (fun x : Unit => (Sl Kf r20)) (fun x => [])) (Hn := fun x : Unit => [⟨.pointer (some q4), [Vn], 22, none⟩, ⟨.pointer (some q5), [Vn], 34, none⟩, ⟨.pointer (some q6), [(Vb false)], 4, none⟩]) (fun _ => rfl) rfl rfl) rfl bs_nil (wt_none' rfl) rfl fun ⟨⟩ => ?_
   exact tx_pick' [0, 1, 2] (sub_cons rfl (sub_cons rfl (sub_cons rfl (sub_cons rfl (sub_cons rfl (sub_cons rfl sub_nil)))))) (by decide) (pick_cons rfl (pick_cons rfl (pick_cons rfl pick_nil))) (hN5 ())
 intro hN3
 refine ax_all (i := 1) (is := [5]) (by kernel_rfl) (all_cons ?_ (all_cons ?_ all_nil))
 ·refine nx_ox (last := #[true, true, true, false, true, false, false, false, false]) rfl (ox_calln' (ent_fn' Try.func50 isn50 rfl rfl) (impl_floats_sim _ hr20 : Sx.Fn Try.prog 50 [(Sl Kf y2.2.1)] [] (fun x : Unit => (Sl Kf r20)) (fun x => [])) (Hn := fun x : Unit => [(Rw (Kl (Kl Kf)) 152 (Vs g13) y2.1), ⟨.pointer (some q6), [(Vb false)], 4, none⟩, ⟨.pointer (some q5), [Vn], 34, none⟩, ⟨.pointer (some q4), [Vn], 22, none⟩]) (fun _ => rfl) rfl rfl) rfl bs_nil (wt_none' rfl) rfl fun ⟨⟩ => ?_
  exact tx_pick' [3, 2, 1] (sub_cons rfl (sub_cons rfl (sub_cons rfl (sub_cons rfl (sub_cons rfl (sub_cons rfl sub_nil)))))) (by decide) (pick_cons rfl (pick_cons rfl (pick_cons rfl pick_nil))) (hN2 ())
 refine nx_rd (last := #[true, false, true, false, true, true, false, false, false]) rfl (rd_binf' rfl rfl (bf_vl (fun _ => by kernel_rfl) nil_eql113_nilif)) rfl rfl (wt_none' rfl) rfl ?_
 exact tx_pick' [3, 2, 1] (sub_cons rfl (sub_cons rfl (sub_cons rfl (sub_cons rfl (sub_cons rfl (sub_cons rfl sub_nil)))))) (by decide) (pick_cons rfl (pick_cons rfl (pick_cons rfl pick_nil))) (hN3 ())

def impl_Deflate2_v2 (k : Nat) (a0 : List (List (List Nat))) (a1 : Int) : Option ((List Nat) × (List Int) × Bool) :=
 (impl_coords2 k a0) >>= fun r13 =>
 (gogeom_DoorDeflate2 k r13 a1) >>= fun r15 =>
 match r15 with
  | (.inl y2) =>
   ((impl_floats_v2 k) >>= fun r20 =>
   (impl_ints k) >>= fun r22 =>
   some (r20, r22, false))
  | (.inr y2) =>
   ((impl_floats k y2.2.1) >>= fun r20 =>
   (impl_ints_v2 k y2.2.2) >>= fun r22 =>
   some (r20, r22, true))

theorem impl_Deflate2_v2_sim {k : Nat} {wa0 : Gs} (a0 : List (List (List Nat))) (a1 : Int) {out : (List Nat) × (List Int) × Bool} (hp : impl_Deflate2_v2 k a0 a1 = some out) : Sx.Fn Try.prog 19 [(Vl (Vs wa0)), (Vi a1)] [(Rw (Kl (Kl Kf)) 39 (Vs wa0) a0)] (fun w : Unit => (Tu [(Sl Kf out.1), (Sl (Ki .i64) out.2.1), (Vb out.2.2)])) (fun w => []) := by
 unfold impl_Deflate2_v2 at hp
 refine fnD_of Try.func19 rfl Try.ntmps19 rfl fun E hM => ?_
 refine cr fun K1 hK1 => ?_
 refine sx_ox' (ox_alloc' info22 rfl rfl rfl rfl (l := [Vn]) rfl) (wt_none' rfl) fun q4 => ?_
 refine sx_ox' (ox_alloc' info34 rfl rfl rfl rfl (l := [Vn]) rfl) (wt_none' rfl) fun q5 => ?_
 refine sx_ox' (ox_alloc' info4 rfl rfl rfl rfl (l := [(Vb false)]) rfl) (wt_none' rfl) fun q6 => ?_
 refine nk hK1 ?_
 refine cr fun K2 hK2 => ?_
 refine s0 (rd_mkfunc' (us := [.pointer (some q4), .pointer (some q5), .pointer (some q6)]) rfl) ?_
 refine sx_ox' (ox_defer' rfl rfl) (wt_none' rfl) fun _ => ?_
 refine nk hK2 ?_
 refine cr fun K3 hK3 => ?_
 refine s0 (rd_move' rfl) ?_
 refine tx_fz' (frz_row 3 [(0, (Vl (Vs wa0)), (Sl (Kl (Kl Kf)) a0)), (12, (Vl (Vs wa0)), (Sl (Kl (Kl Kf)) a0))] (K := (Kl (Kl Kf))) (xs := a0) (by decide) rfl ⟨⟨rfl, frz_it⟩, ⟨rfl, frz_it⟩, trivial⟩ (H' := [⟨.pointer (some q6), [(Vb false)], 4, none⟩, ⟨.pointer (some q5), [Vn], 34, none⟩, ⟨.pointer (some q4), [Vn], 22, none⟩]) frzH_refl) ?_
 obtain ⟨r13, hr13, hp⟩ := bind_some hp
 refine sx_ox' (ox_calln' (ent_fn' Try.func59 isn59 rfl rfl) (impl_coords2_sim _ hr13 : Sx.Fn Try.prog 59 [(Sl (Kl (Kl Kf)) a0)] [] (fun x : Gs => (Vl (Vs x))) (fun x => [(Rw (Kl (Kl Kf)) 152 (Vs x) r13)])) (Hn := fun x : Gs => [(Rw (Kl (Kl Kf)) 152 (Vs x) r13), ⟨.pointer (some q6), [(Vb false)], 4, none⟩, ⟨.pointer (some q5), [Vn], 34, none⟩, ⟨.pointer (some q4), [Vn], 22, none⟩]) (fun _ => rfl) rfl rfl) (wt_none' rfl) fun g13 => ?_
 refine s0 (rd_move' rfl) ?_
 obtain ⟨r15, hr15, hp⟩ := bind_some hp
 rcases r15 with y2 | y2
 ·dsimp only at hp
  refine sx_ox' (ox_callg' (ent_fn' Try.func58 isn58 rfl rfl) (gogeom_DoorDeflate2_sim _ _ hr15 : Sx.Fn Try.prog 58 [(Vl (Vs g13)), (Vi a1)] [(Rw (Kl (Kl Kf)) 152 (Vs g13) r13)] (fun x : Unit => (Tu [Vn, Vn, (If 194 (Ag [(Vi y2.2.1), (Vi y2.2.2)]))])) (fun x => [(Rw (Kl (Kl Kf)) 152 (Vs g13) y2.1)])) [0] [1, 2, 3] (by decide) (pick_cons rfl pick_nil) (pick_cons rfl (pick_cons rfl (pick_cons rfl pick_nil))) (Hn := fun x : Unit => [(Rw (Kl (Kl Kf)) 152 (Vs g13) y2.1), ⟨.pointer (some q6), [(Vb false)], 4, none⟩, ⟨.pointer (some q5), [Vn], 34, none⟩, ⟨.pointer (some q4), [Vn], 22, none⟩]) (fun _ => rfl) rfl rfl) (wt_none' rfl) fun ⟨⟩ => ?_
  refine s0 (rd_move' rfl) ?_
  refine s0 (rd_extract' rfl rfl) ?_
  refine s0 (rd_extract' rfl rfl) ?_
  refine s0 (rd_extract' rfl rfl) ?_
  refine s0 (rd_assign' rfl) ?_
  refine s0 (rd_assign' rfl) ?_
  refine s0 (rd_assign' rfl) ?_
  refine nk hK3 ?_
  refine cx_seq' fun K4 hK4 => ?_
  refine cx_plana' [] [(6, 1), (7, 1), (8, 1)] [(0, 1), (2, 1), (4, 2)] 6 #[true, false, true, false, true, false, false, false, false] mixed (by kernel_rfl) ?_
  refine px_rd' rfl (rd_move' rfl) rfl rfl (wt_none' rfl) ?_
  refine px_rd' rfl (rd_move' rfl) rfl rfl (wt_none' rfl) ?_
  refine px_rb' rfl (rb_move' rfl) rfl rfl (wt_none' rfl) ?_
  refine px_nil' ?_
  show AX E _ _ _ _ _ _ _ _
  obtain ⟨r20, hr20, hp⟩ := bind_some hp
  obtain ⟨r22, hr22, hp⟩ := bind_some hp
  refine ax_node (f' := 0) #[true, true, true, true, true, true, true, true, true] (fun (v10 : Unit) => (⟨25, [⟨.fn (.func 57) ⟨[.pointer (some q4), .pointer (some q5), .pointer (some q6)]⟩, #[]⟩], [(4, (Vp q4)), (5, (Vp q5)), (6, (Vp q6))], [⟨.pointer (some q4), [(Sl Kf r20)], 22, none⟩, ⟨.pointer (some q5), [(Sl (Ki .i64) r22)], 34, none⟩, ⟨.pointer (some q6), [(Vb false)], 4, none⟩]⟩ : St)) ?_ ?_
  ·rintro ⟨⟩
   refine ax_nil (by kernel_rfl) ?_
   show TX E K4 _
   refine tx_k' hK4 ?_
   refine cx_retc' ?_
   replace hp := Option.some.inj hp
   subst hp
   refine tx_leave' (.inl rfl) rfl idle57 rfl Try.func57 isn57 rfl ?_
   refine tx_pick' (L' := [(4, (Vp q4)), (5, (Vp q5)), (6, (Vp q6))]) (H' := [⟨.pointer (some q4), [(Sl Kf r20)], 22, none⟩, ⟨.pointer (some q5), [(Sl (Ki .i64) r22)], 34, none⟩, ⟨.pointer (some q6), [(Vb false)], 4, none⟩]) [0, 1, 2] (sub_cons rfl (sub_cons rfl (sub_cons rfl sub_nil))) (by decide) (pick_cons rfl (pick_cons rfl (pick_cons rfl pick_nil))) ?_
   exact tx_ret3' Try.results19 rfl () (rv_cell' (i := 0) (o := 0) rfl ⟨rfl, rfl, rfl, rfl⟩ rfl flat22) (rv_cell' (i := 1) (o := 0) rfl ⟨rfl, rfl, rfl, rfl⟩ rfl flat34) (rv_cell' (i := 2) (o := 0) rfl ⟨rfl, rfl, rfl, rfl⟩ rfl flat4) rfl (List.nil_sublist _)
  intro hN11
  refine ax_node (f' := 1) #[true, true, true, true, true, true, true, true, false] (fun (v9 : Unit) => (⟨25, [⟨.fn (.func 57) ⟨[.pointer (some q4), .pointer (some q5), .pointer (some q6)]⟩, #[]⟩], [(4, (Vp q4)), (5, (Vp q5)), (6, (Vp q6)), (24, (Vb false))], [⟨.pointer (some q4), [(Sl Kf r20)], 22, none⟩, ⟨.pointer (some q5), [(Sl (Ki .i64) r22)], 34, none⟩, ⟨.pointer (some q6), [(Vb false)], 4, none⟩]⟩ : St)) ?_ ?_
  ·rintro ⟨⟩
   refine ax_all (i := 8) (is := []) (by kernel_rfl) (all_cons ?_ all_nil)
   ·refine nx_oxv (last := #[true, true, true, true, true, true, true, true, true]) rfl (oxv_store (i := 2) (o := 0) rfl rfl (lv_vl rfl rfl) ⟨rfl, rfl, rfl, rfl⟩ rfl info4 rfl (H' := [⟨.pointer (some q4), [(Sl Kf r20)], 22, none⟩, ⟨.pointer (some q5), [(Sl (Ki .i64) r22)], 34, none⟩, ⟨.pointer (some q6), [(Vb false)], 4, none⟩]) rfl) rfl rfl bo_nil (wt_none' rfl) rfl fun _ => ?_
    exact tx_pick' [0, 1, 2] (sub_cons rfl (sub_cons rfl (sub_cons rfl sub_nil))) (by decide) (pick_cons rfl (pick_cons rfl (pick_cons rfl pick_nil))) (hN11 ())
  intro hN10
  refine ax_node (f' := 2) #[true, true, true, true, true, true, true, false, false] (fun (v7 : Unit) => (⟨25, [⟨.fn (.func 57) ⟨[.pointer (some q4), .pointer (some q5), .pointer (some q6)]⟩, #[]⟩], [(4, (Vp q4)), (5, (Vp q5)), (6, (Vp q6)), (22, (Sl (Ki .i64) r22)), (24, (Vb false))], [⟨.pointer (some q4), [(Sl Kf r20)], 22, none⟩, ⟨.pointer (some q5), [Vn], 34, none⟩, ⟨.pointer (some q6), [(Vb false)], 4, none⟩]⟩ : St)) ?_ ?_
  ·rintro ⟨⟩
   refine ax_all (i := 7) (is := []) (by kernel_rfl) (all_cons ?_ all_nil)
   ·refine nx_oxv (last := #[true, true, true, true, true, true, true, true, false]) rfl (oxv_store (i := 1) (o := 0) rfl rfl (lv_sl _ _) ⟨rfl, rfl, rfl, rfl⟩ rfl info34 rfl (H' := [⟨.pointer (some q4), [(Sl Kf r20)], 22, none⟩, ⟨.pointer (some q5), [(Sl (Ki .i64) r22)], 34, none⟩, ⟨.pointer (some q6), [(Vb false)], 4, none⟩]) rfl) rfl rfl bo_nil (wt_none' rfl) rfl fun _ => ?_
    exact tx_pick' [0, 1, 2] (sub_cons rfl (sub_cons rfl (sub_cons rfl (sub_cons rfl sub_nil)))) (by decide) (pick_cons rfl (pick_cons rfl (pick_cons rfl pick_nil))) (hN10 ())
  intro hN8
  refine ax_node (f' := 2) #[true, true, true, true, true, false, true, true, false] (fun (v8 : Unit) => (⟨25, [⟨.fn (.func 57) ⟨[.pointer (some q4), .pointer (some q5), .pointer (some q6)]⟩, #[]⟩], [(4, (Vp q4)), (5, (Vp q5)), (6, (Vp q6)), (23, (If 194 (Ag [(Vi y2.2.1), (Vi y2.2.2)])))], [⟨.pointer (some q4), [(Sl Kf r20)], 22, none⟩, ⟨.pointer (some q5), [(Sl (Ki .i64) r22)], 34, none⟩, ⟨.pointer (some q6), [(Vb false)], 4, none⟩]⟩ : St)) ?_ ?_
  ·rintro ⟨⟩
   refine ax_rd (ix := 5) (last := #[true, true, true, true, true, true, true, true, false]) (by kernel_rfl) rfl (rd_binf' rfl rfl (bf_if (fun _ _ => by kernel_rfl) nil_eql113_if194)) rfl rfl (wt_none' rfl) rfl ?_
   exact tx_pick' [0, 1, 2] (sub_cons rfl (sub_cons rfl (sub_cons rfl (sub_cons rfl sub_nil)))) (by decide) (pick_cons rfl (pick_cons rfl (pick_cons rfl pick_nil))) (hN10 ())
  intro hN9
  refine ax_node (f' := 3) #[true, true, true, true, true, true, false, false, false] (fun (v5 : Unit) => (⟨25, [⟨.fn (.func 57) ⟨[.pointer (some q4), .pointer (some q5), .pointer (some q6)]⟩, #[]⟩], [(4, (Vp q4)), (5, (Vp q5)), (6, (Vp q6)), (20, (Sl Kf r20)), (22, (Sl (Ki .i64) r22)), (24, (Vb false))], [⟨.pointer (some q4), [Vn], 22, none⟩, ⟨.pointer (some q5), [Vn], 34, none⟩, ⟨.pointer (some q6), [(Vb false)], 4, none⟩]⟩ : St)) ?_ ?_
  ·rintro ⟨⟩
   refine ax_all (i := 6) (is := []) (by kernel_rfl) (all_cons ?_ all_nil)
   ·refine nx_oxv (last := #[true, true, true, true, true, true, true, false, false]) rfl (oxv_store (i := 0) (o := 0) rfl rfl (lv_sl _ _) ⟨rfl, rfl, rfl, rfl⟩ rfl info22 rfl (H' := [⟨.pointer (some q4), [(Sl Kf r20)], 22, none⟩, ⟨.pointer (some q5), [Vn], 34, none⟩, ⟨.pointer (some q6), [(Vb false)], 4, none⟩]) rfl) rfl rfl bo_nil (wt_none' rfl) rfl fun _ => ?_
    exact tx_pick' [0, 1, 2] (sub_cons rfl (sub_cons rfl (sub_cons rfl (sub_cons rfl (sub_cons rfl sub_nil))))) (by decide) (pick_cons rfl (pick_cons rfl (pick_cons rfl pick_nil))) (hN8 ())
  intro hN6
  refine ax_node (f' := 3) #[true, true, true, true, true, false, true, false, false] (fun (v6 : Unit) => (⟨25, [⟨.fn (.func 57) ⟨[.pointer (some q4), .pointer (some q5), .pointer (some q6)]⟩, #[]⟩], [(4, (Vp q4)), (5, (Vp q5)), (6, (Vp q6)), (22, (Sl (Ki .i64) r22)), (23, (If 194 (Ag [(Vi y2.2.1), (Vi y2.2.2)])))], [⟨.pointer (some q4), [(Sl Kf r20)], 22, none⟩, ⟨.pointer (some q5), [Vn], 34, none⟩, ⟨.pointer (some q6), [(Vb false)], 4, none⟩]⟩ : St)) ?_ ?_
  ·rintro ⟨⟩
   refine ax_all (i := 5) (is := [7]) (by kernel_rfl) (all_cons ?_ (all_cons ?_ all_nil))
   ·refine nx_rd (last := #[true, true, true, true, true, true, true, false, false]) rfl (rd_binf' rfl rfl (bf_if (fun _ _ => by kernel_rfl) nil_eql113_if194)) rfl rfl (wt_none' rfl) rfl ?_
    exact tx_pick' [0, 1, 2] (sub_cons rfl (sub_cons rfl (sub_cons rfl (sub_cons rfl (sub_cons rfl sub_nil))))) (by decide) (pick_cons rfl (pick_cons rfl (pick_cons rfl pick_nil))) (hN8 ())
   refine nx_oxv (last := #[true, true, true, true, true, false, true, true, false]) rfl (oxv_store (i := 1) (o := 0) rfl rfl (lv_sl _ _) ⟨rfl, rfl, rfl, rfl⟩ rfl info34 rfl (H' := [⟨.pointer (some q4), [(Sl Kf r20)], 22, none⟩, ⟨.pointer (some q5), [(Sl (Ki .i64) r22)], 34, none⟩, ⟨.pointer (some q6), [(Vb false)], 4, none⟩]) rfl) rfl rfl bo_nil (wt_none' rfl) rfl fun _ => ?_
   exact tx_pick' [0, 1, 2] (sub_cons rfl (sub_cons rfl (sub_cons rfl (sub_cons rfl sub_nil)))) (by decide) (pick_cons rfl (pick_cons rfl (pick_cons rfl pick_nil))) (hN9 ())
  intro hN7
  refine ax_node (f' := 4) #[true, true, true, true, true, false, false, false, false] (fun (v3 : Unit) => (⟨25, [⟨.fn (.func 57) ⟨[.pointer (some q4), .pointer (some q5), .pointer (some q6)]⟩, #[]⟩], [(4, (Vp q4)), (5, (Vp q5)), (6, (Vp q6)), (20, (Sl Kf r20)), (22, (Sl (Ki .i64) r22)), (23, (If 194 (Ag [(Vi y2.2.1), (Vi y2.2.2)])))], [⟨.pointer (some q4), [Vn], 22, none⟩, ⟨.pointer (some q5), [Vn], 34, none⟩, ⟨.pointer (some q6), [(Vb false)], 4, none⟩]⟩ : St)) ?_ ?_
  ·rintro ⟨⟩
   refine ax_all (i := 5) (is := [6]) (by kernel_rfl) (all_cons ?_ (all_cons ?_ all_nil))
   ·refine nx_rd (last := #[true, true, true, true, true, true, false, false, false]) rfl (rd_binf' rfl rfl (bf_if (fun _ _ => by kernel_rfl) nil_eql113_if194)) rfl rfl (wt_none' rfl) rfl ?_
    exact tx_pick' [0, 1, 2] (sub_cons rfl (sub_cons rfl (sub_cons rfl (sub_cons rfl (sub_cons rfl (sub_cons rfl sub_nil)))))) (by decide) (pick_cons rfl (pick_cons rfl (pick_cons rfl pick_nil))) (hN6 ())
   refine nx_oxv (last := #[true, true, true, true, true, false, true, false, false]) rfl (oxv_store (i := 0) (o := 0) rfl rfl (lv_sl _ _) ⟨rfl, rfl, rfl, rfl⟩ rfl info22 rfl (H' := [⟨.pointer (some q4), [(Sl Kf r20)], 22, none⟩, ⟨.pointer (some q5), [Vn], 34, none⟩, ⟨.pointer (some q6), [(Vb false)], 4, none⟩]) rfl) rfl rfl bo_nil (wt_none' rfl) rfl fun _ => ?_
   exact tx_pick' [0, 1, 2] (sub_cons rfl (sub_cons rfl (sub_cons rfl (sub_cons rfl (sub_cons rfl sub_nil))))) (by decide) (pick_cons rfl (pick_cons rfl (pick_cons rfl pick_nil))) (hN7 ())
  intro hN4
  refine ax_node (f' := 4) #[true, true, true, false, true, true, false, false, false] (fun (v4 : Unit) => (⟨25, [⟨.fn (.func 57) ⟨[.pointer (some q4), .pointer (some q5), .pointer (some q6)]⟩, #[]⟩], [(4, (Vp q4)), (5, (Vp q5)), (6, (Vp q6)), (20, (Sl Kf r20)), (21, Vn), (24, (Vb false))], [⟨.pointer (some q4), [Vn], 22, none⟩, ⟨.pointer (some q5), [Vn], 34, none⟩, ⟨.pointer (some q6), [(Vb false)], 4, none⟩]⟩ : St)) ?_ ?_
  ·rintro ⟨⟩
   refine ax_all (i := 3) (is := []) (by kernel_rfl) (all_cons ?_ all_nil)
   ·refine nx_ox (last := #[true, true, true, true, true, true, false, false, false]) rfl (ox_calln' (ent_fn' Try.func60 isn60 rfl rfl) (impl_ints_sim hr22 : Sx.Fn Try.prog 60 [Vn] [] (fun x : Unit => (Sl (Ki .i64) r22)) (fun x => [])) (Hn := fun x : Unit => [⟨.pointer (some q4), [Vn], 22, none⟩, ⟨.pointer (some q5), [Vn], 34, none⟩, ⟨.pointer (some q6), [(Vb false)], 4, none⟩]) (fun _ => rfl) rfl rfl) rfl bs_nil (wt_none' rfl) rfl fun ⟨⟩ => ?_
    exact tx_pick' [0, 1, 2] (sub_cons rfl (sub_cons rfl (sub_cons rfl (sub_cons rfl (sub_cons rfl (sub_cons rfl sub_nil)))))) (by decide) (pick_cons rfl (pick_cons rfl (pick_cons rfl pick_nil))) (hN6 ())
  intro hN5
  refine ax_node (f' := 5) #[true, true, true, false, true, false, false, false, false] (fun (v1 : Unit) => (⟨25, [⟨.fn (.func 57) ⟨[.pointer (some q4), .pointer (some q5), .pointer (some q6)]⟩, #[]⟩], [(4, (Vp q4)), (5, (Vp q5)), (6, (Vp q6)), (20, (Sl Kf r20)), (21, Vn), (23, (If 194 (Ag [(Vi y2.2.1), (Vi y2.2.2)])))], [⟨.pointer (some q4), [Vn], 22, none⟩, ⟨.pointer (some q5), [Vn], 34, none⟩, ⟨.pointer (some q6), [(Vb false)], 4, none⟩]⟩ : St)) ?_ ?_
  ·rintro ⟨⟩
   refine ax_all (i := 3) (is := [5]) (by kernel_rfl) (all_cons ?_ (all_cons ?_ all_nil))
   ·refine nx_ox (last := #[true, true, true, true, true, false, false, false, false]) rfl (ox_calln' (ent_fn' Try.func60 isn60 rfl rfl) (impl_ints_sim hr22 : Sx.Fn Try.prog 60 [Vn] [] (fun x : Unit => (Sl (Ki .i64) r22)) (fun x => [])) (Hn := fun x : Unit => [⟨.pointer (some q4), [Vn], 22, none⟩, ⟨.pointer (some q5), [Vn], 34, none⟩, ⟨.pointer (some q6), [(Vb false)], 4, none⟩]) (fun _ => rfl) rfl rfl) rfl bs_nil (wt_none' rfl) rfl fun ⟨⟩ => ?_
    exact tx_pick' [0, 1, 2] (sub_cons rfl (sub_cons rfl (sub_cons rfl (sub_cons rfl (sub_cons rfl (sub_cons rfl sub_nil)))))) (by decide) (pick_cons rfl (pick_cons rfl (pick_cons rfl pick_nil))) (hN4 ())
   refine nx_rd (last := #[true, true, true, false, true, true, false, false, false]) rfl (rd_binf' rfl rfl (bf_if (fun _ _ => by kernel_rfl) nil_eql113_if194)) rfl rfl (wt_none' rfl) rfl ?_
   exact tx_pick' [0, 1, 2] (sub_cons rfl (sub_cons rfl (sub_cons rfl (sub_cons rfl (sub_cons rfl (sub_cons rfl sub_nil)))))) (by decide) (pick_cons rfl (pick_cons rfl (pick_cons rfl pick_nil))) (hN5 ())
  intro hN2
  refine ax_node (f' := 5) #[true, false, true, false, true, true, false, false, false] (fun (v2 : Unit) => (⟨25, [⟨.fn (.func 57) ⟨[.pointer (some q4), .pointer (some q5), .pointer (some q6)]⟩, #[]⟩], [(4, (Vp q4)), (5, (Vp q5)), (6, (Vp q6)), (19, Vn), (21, Vn), (24, (Vb false))], [⟨.pointer (some q4), [Vn], 22, none⟩, ⟨.pointer (some q5), [Vn], 34, none⟩, ⟨.pointer (some q6), [(Vb false)], 4, none⟩]⟩ : St)) ?_ ?_
  ·rintro ⟨⟩
   refine ax_all (i := 1) (is := []) (by kernel_rfl) (all_cons ?_ all_nil)
   ·refine nx_ox (last := #[true, true, true, false, true, true, false, false, false]) rfl (ox_calln' (ent_fn' Try.func50 isn50 rfl rfl) (impl_floats_v2_sim hr20 : Sx.Fn Try.prog 50 [Vn] [] (fun x : Unit => (Sl Kf r20)) (fun x => [])) (Hn := fun x : Unit => [⟨.pointer (some q4), [Vn], 22, none⟩, ⟨.pointer (some q5), [Vn], 34, none⟩, ⟨.pointer (some q6), [(Vb false)], 4, none⟩]) (fun _ => rfl) rfl rfl) rfl bs_nil (wt_none' rfl) rfl fun ⟨⟩ => ?_
    exact tx_pick' [0, 1, 2] (sub_cons rfl (sub_cons rfl (sub_cons rfl (sub_cons rfl (sub_cons rfl (sub_cons rfl sub_nil)))))) (by decide) (pick_cons rfl (pick_cons rfl (pick_cons rfl pick_nil))) (hN5 ())
  intro hN3
  refine ax_all (i := 1) (is := [5]) (by kernel_rfl) (all_cons ?_ (all_cons ?_ all_nil))
  ·refine nx_ox (last := #[true, true, true, false, true, false, false, false, false]) rfl (ox_calln' (ent_fn' Try.func50 isn50 rfl rfl) (impl_floats_v2_sim hr20 : Sx.Fn Try.prog 50 [Vn] [] (fun x : Unit => (Sl Kf r20)) (fun x => [])) (Hn := fun x : Unit => [(Rw (Kl (Kl Kf)) 152 (Vs g13) y2.1), ⟨.pointer (some q6), [(Vb false)], 4, none⟩, ⟨.pointer (some q5), [Vn], 34, none⟩, ⟨.pointer (some q4), [Vn], 22, none⟩]) (fun _ => rfl) rfl rfl) rfl bs_nil (wt_none' rfl) rfl fun ⟨⟩ => ?_
   exact tx_pick' [3, 2, 1] (sub_cons rfl (sub_cons rfl (sub_cons rfl (sub_cons rfl (sub_cons rfl (sub_cons rfl sub_nil)))))) (by decide) (pick_cons rfl (pick_cons rfl (pick_cons rfl pick_nil))) (hN2 ())
  refine nx_rd (last := #[true, false, true, false, true, true, false, false, false]) rfl (rd_binf' rfl rfl (bf_if (fun _ _ => by kernel_rfl) nil_eql113_if194)) rfl rfl (wt_none' rfl) rfl ?_
  exact tx_pick' [3, 2, 1] (sub_cons rfl (sub_cons rfl (sub_cons rfl (sub_cons rfl (sub_cons rfl (sub_cons rfl sub_nil)))))) (by decide) (pick_cons rfl (pick_cons rfl (pick_cons rfl pick_nil))) (hN3 ())
 dsimp only at hp
 refine sx_ox' (ox_callg' (ent_fn' Try.func58 isn58 rfl rfl) (gogeom_DoorDeflate2_sim _ _ hr15 : Sx.Fn Try.prog 58 [(Vl (Vs g13)), (Vi a1)] [(Rw (Kl (Kl Kf)) 152 (Vs g13) r13)] (fun x : Unit => (Tu [(Sl Kf y2.2.1), (Sl (Ki .i64) y2.2.2), Ve])) (fun x => [(Rw (Kl (Kl Kf)) 152 (Vs g13) y2.1)])) [0] [1, 2, 3] (by decide) (pick_cons rfl pick_nil) (pick_cons rfl (pick_cons rfl (pick_cons rfl pick_nil))) (Hn := fun x : Unit => [(Rw (Kl (Kl Kf)) 152 (Vs g13) y2.1), ⟨.pointer (some q6), [(Vb false)], 4, none⟩, ⟨.pointer (some q5), [Vn], 34, none⟩, ⟨.pointer (some q4), [Vn], 22, none⟩]) (fun _ => rfl) rfl rfl) (wt_none' rfl) fun ⟨⟩ => ?_
 refine s0 (rd_move' rfl) ?_
 refine s0 (rd_extract' rfl rfl) ?_
 refine s0 (rd_extract' rfl rfl) ?_
 refine s0 (rd_extract' rfl rfl) ?_
 refine s0 (rd_assign' rfl) ?_
 refine s0 (rd_assign' rfl) ?_
 refine s0 (rd_assign' rfl) ?_
 refine nk hK3 ?_
 refine cx_seq' fun K4 hK4 => ?_
 refine cx_plana' [] [(6, 1), (7, 1), (8, 1)] [(0, 1), (2, 1), (4, 2)] 6 #[true, false, true, false, true, false, false, false, false] mixed (by kernel_rfl) ?_
 refine px_rd' rfl (rd_move' rfl) rfl rfl (wt_none' rfl) ?_
 refine px_rd' rfl (rd_move' rfl) rfl rfl (wt_none' rfl) ?_
 refine px_rb' rfl (rb_move' rfl) rfl rfl (wt_none' rfl) ?_
 refine px_nil' ?_
 show AX E _ _ _ _ _ _ _ _
 obtain ⟨r20, hr20, hp⟩ := bind_some hp
 obtain ⟨r22, hr22, hp⟩ := bind_some hp
 refine ax_node (f' := 0) #[true, true, true, true, true, true, true, true, true] (fun (v10 : Unit) => (⟨25, [⟨.fn (.func 57) ⟨[.pointer (some q4), .pointer (some q5), .pointer (some q6)]⟩, #[]⟩], [(4, (Vp q4)), (5, (Vp q5)), (6, (Vp q6))], [⟨.pointer (some q4), [(Sl Kf r20)], 22, none⟩, ⟨.pointer (some q5), [(Sl (Ki .i64) r22)], 34, none⟩, ⟨.pointer (some q6), [(Vb true)], 4, none⟩]⟩ : St)) ?_ ?_
 ·rintro ⟨⟩
  refine ax_nil (by kernel_rfl) ?_
  show TX E K4 _
  refine tx_k' hK4 ?_
  refine cx_retc' ?_
  replace hp := Option.some.inj hp
  subst hp
  refine tx_leave' (.inl rfl) rfl idle57 rfl Try.func57 isn57 rfl ?_
  refine tx_pick' (L' := [(4, (Vp q4)), (5, (Vp q5)), (6, (Vp q6))]) (H' := [⟨.pointer (some q4), [(Sl Kf r20)], 22, none⟩, ⟨.pointer (some q5), [(Sl (Ki .i64) r22)], 34, none⟩, ⟨.pointer (some q6), [(Vb true)], 4, none⟩]) [0, 1, 2] (sub_cons rfl (sub_cons rfl (sub_cons rfl sub_nil))) (by decide) (pick_cons rfl (pick_cons rfl (pick_cons rfl pick_nil))) ?_
  exact tx_ret3' Try.results19 rfl () (rv_cell' (i := 0) (o := 0) rfl ⟨rfl, rfl, rfl, rfl⟩ rfl flat22) (rv_cell' (i := 1) (o := 0) rfl ⟨rfl, rfl, rfl, rfl⟩ rfl flat34) (rv_cell' (i := 2) (o := 0) rfl ⟨rfl, rfl, rfl, rfl⟩ rfl flat4) rfl (List.nil_sublist _)
 intro hN11
 refine ax_node (f' := 1) #[true, true, true, true, true, true, true, true, false] (fun (v9 : Unit) => (⟨25, [⟨.fn (.func 57) ⟨[.pointer (some q4), .pointer (some q5), .pointer (some q6)]⟩, #[]⟩], [(4, (Vp q4)), (5, (Vp q5)), (6, (Vp q6)), (24, (Vb true))], [⟨.pointer (some q4), [(Sl Kf r20)], 22, none⟩, ⟨.pointer (some q5), [(Sl (Ki .i64) r22)], 34, none⟩, ⟨.pointer (some q6), [(Vb false)], 4, none⟩]⟩ : St)) ?_ ?_
 ·rintro ⟨⟩
  refine ax_all (i := 8) (is := []) (by kernel_rfl) (all_cons ?_ all_nil)
  ·refine nx_oxv (last := #[true, true, true, true, true, true, true, true, true]) rfl (oxv_store (i := 2) (o := 0) rfl rfl (lv_vl rfl rfl) ⟨rfl, rfl, rfl, rfl⟩ rfl info4 rfl (H' := [⟨.pointer (some q4), [(Sl Kf r20)], 22, none⟩, ⟨.pointer (some q5), [(Sl (Ki .i64) r22)], 34, none⟩, ⟨.pointer (some q6), [(Vb true)], 4, none⟩]) rfl) rfl rfl bo_nil (wt_none' rfl) rfl fun _ => ?_
   exact tx_pick' [0, 1, 2] (sub_cons rfl (sub_cons rfl (sub_cons rfl sub_nil))) (by decide) (pick_cons rfl (pick_cons rfl (pick_cons rfl pick_nil))) (hN11 ())
 intro hN10
 refine ax_node (f' := 2) #[true, true, true, true, true, true, true, false, false] (fun (v7 : Unit) => (⟨25, [⟨.fn (.func 57) ⟨[.pointer (some q4), .pointer (some q5), .pointer (some q6)]⟩, #[]⟩], [(4, (Vp q4)), (5, (Vp q5)), (6, (Vp q6)), (22, (Sl (Ki .i64) r22)), (24, (Vb true))], [⟨.pointer (some q4), [(Sl Kf r20)], 22, none⟩, ⟨.pointer (some q5), [Vn], 34, none⟩, ⟨.pointer (some q6), [(Vb false)], 4, none⟩]⟩ : St)) ?_ ?_
 ·rintro ⟨⟩
  refine ax_all (i := 7) (is := []) (by kernel_rfl) (all_cons ?_ all_nil)
  ·refine nx_oxv (last := #[true, true, true, true, true, true, true, true, false]) rfl (oxv_store (i := 1) (o := 0) rfl rfl (lv_sl _ _) ⟨rfl, rfl, rfl, rfl⟩ rfl info34 rfl (H' := [⟨.pointer (some q4), [(Sl Kf r20)], 22, none⟩, ⟨.pointer (some q5), [(Sl (Ki .i64) r22)], 34, none⟩, ⟨.pointer (some q6), [(Vb false)], 4, none⟩]) rfl) rfl rfl bo_nil (wt_none' rfl) rfl fun _ => ?_
   exact tx_pick' [0, 1, 2] (sub_cons rfl (sub_cons rfl (sub_cons rfl (sub_cons rfl sub_nil)))) (by decide) (pick_cons rfl (pick_cons rfl (pick_cons rfl pick_nil))) (hN10 ())
 intro hN8
 refine ax_node (f' := 2) #[true, true, true, true, true, false, true, true, false] (fun (v8 : Unit) => (⟨25, [⟨.fn (.func 57) ⟨[.pointer (some q4), .pointer (some q5), .pointer (some q6)]⟩, #[]⟩], [(4, (Vp q4)), (5, (Vp q5)), (6, (Vp q6)), (23, Ve)], [⟨.pointer (some q4), [(Sl Kf r20)], 22, none⟩, ⟨.pointer (some q5), [(Sl (Ki .i64) r22)], 34, none⟩, ⟨.pointer (some q6), [(Vb false)], 4, none⟩]⟩ : St)) ?_ ?_
 ·rintro ⟨⟩
  refine ax_rd (ix := 5) (last := #[true, true, true, true, true, true, true, true, false]) (by kernel_rfl) rfl (rd_binf' rfl rfl (bf_vl (fun _ => by kernel_rfl) nil_eql113_nilif)) rfl rfl (wt_none' rfl) rfl ?_
  exact tx_pick' [0, 1, 2] (sub_cons rfl (sub_cons rfl (sub_cons rfl (sub_cons rfl sub_nil)))) (by decide) (pick_cons rfl (pick_cons rfl (pick_cons rfl pick_nil))) (hN10 ())
 intro hN9
 refine ax_node (f' := 3) #[true, true, true, true, true, true, false, false, false] (fun (v5 : Unit) => (⟨25, [⟨.fn (.func 57) ⟨[.pointer (some q4), .pointer (some q5), .pointer (some q6)]⟩, #[]⟩], [(4, (Vp q4)), (5, (Vp q5)), (6, (Vp q6)), (20, (Sl Kf r20)), (22, (Sl (Ki .i64) r22)), (24, (Vb true))], [⟨.pointer (some q4), [Vn], 22, none⟩, ⟨.pointer (some q5), [Vn], 34, none⟩, ⟨.pointer (some q6), [(Vb false)], 4, none⟩]⟩ : St)) ?_ ?_
 ·rintro ⟨⟩
  refine ax_all (i := 6) (is := []) (by kernel_rfl) (all_cons ?_ all_nil)
  ·refine nx_oxv (last := #[true, true, true, true, true, true, true, false, false]) rfl (oxv_store (i := 0) (o := 0) rfl rfl (lv_sl _ _) ⟨rfl, rfl, rfl, rfl⟩ rfl info22 rfl (H' := [⟨.pointer (some q4), [(Sl Kf r20)], 22, none⟩, ⟨.pointer (some q5), [Vn], 34, none⟩, ⟨.pointer (some q6), [(Vb false)], 4, none⟩]) rfl) rfl rfl bo_nil (wt_none' rfl) rfl fun _ => ?_
   exact tx_pick' [0, 1, 2] (sub_cons rfl (sub_cons rfl (sub_cons rfl (sub_cons rfl (sub_cons rfl sub_nil))))) (by decide) (pick_cons rfl (pick_cons rfl (pick_cons rfl pick_nil))) (hN8 ())
 intro hN6
 refine ax_node (f' := 3) #[true, true, true, true, true, false, true, false, false] (fun (v6 : Unit) => (⟨25, [⟨.fn (.func 57) ⟨[.pointer (some q4), .pointer (some q5), .pointer (some q6)]⟩, #[]⟩], [(4, (Vp q4)), (5, (Vp q5)), (6, (Vp q6)), (22, (Sl (Ki .i64) r22)), (23, Ve)], [⟨.pointer (some q4), [(Sl Kf r20)], 22, none⟩, ⟨.pointer (some q5), [Vn], 34, none⟩, ⟨.pointer (some q6), [(Vb false)], 4, none⟩]⟩ : St)) ?_ ?_
 ·rintro ⟨⟩
  refine ax_all (i := 5) (is := [7]) (by kernel_rfl) (all_cons ?_ (all_cons ?_ all_nil))
  ·refine nx_rd (last := #[true, true, true, true, true, true, true, false, false]) rfl (rd_binf' rfl rfl (bf_vl (fun _ => by kernel_rfl) nil_eql113_nilif)) rfl rfl (wt_none' rfl) rfl ?_
   exact tx_pick' [0, 1, 2] (sub_cons rfl (sub_cons rfl (sub_cons rfl (sub_cons rfl (sub_cons rfl sub_nil))))) (by decide) (pick_cons rfl (pick_cons rfl (pick_cons rfl pick_nil))) (hN8 ())
  refine nx_oxv (last := #[true, true, true, true, true, false, true, true, false]) rfl (oxv_store (i := 1) (o := 0) rfl rfl (lv_sl _ _) ⟨rfl, rfl, rfl, rfl⟩ rfl info34 rfl (H' := [⟨.pointer (some q4), [(Sl Kf r20)], 22, none⟩, ⟨.pointer (some q5), [(Sl (Ki .i64) r22)], 34, none⟩, ⟨.pointer (some q6), [(Vb false)], 4, none⟩]) rfl) rfl rfl bo_nil (wt_none' rfl) rfl fun _ => ?_
  exact tx_pick' [0, 1, 2] (sub_cons rfl (sub_cons rfl (sub_cons rfl (sub_cons rfl sub_nil)))) (by decide) (pick_cons rfl (pick_cons rfl (pick_cons rfl pick_nil))) (hN9 ())
 intro hN7
 refine ax_node (f' := 4) #[true, true, true, true, true, false, false, false, false] (fun (v3 : Unit) => (⟨25, [⟨.fn (.func 57) ⟨[.pointer (some q4), .pointer (some q5), .pointer (some q6)]⟩, #[]⟩], [(4, (Vp q4)), (5, (Vp q5)), (6, (Vp q6)), (20, (Sl Kf r20)), (22, (Sl (Ki .i64) r22)), (23, Ve)], [⟨.pointer (some q4), [Vn], 22, none⟩, ⟨.pointer (some q5), [Vn], 34, none⟩, ⟨.pointer (some q6), [(Vb false)], 4, none⟩]⟩ : St)) ?_ ?_
 ·rintro ⟨⟩
  refine ax_all (i := 5) (is := [6]) (by kernel_rfl) (all_cons ?_ (all_cons ?_ all_nil))
  ·refine nx_rd (last := #[true, true, true, true, true, true, false, false, false]) rfl (rd_binf' rfl rfl (bf_vl (fun _ => by kernel_rfl) nil_eql113_nilif)) rfl rfl (wt_none' rfl) rfl ?_
   exact tx_pick' [0, 1, 2] (sub_cons rfl (sub_cons rfl (sub_cons rfl (sub_cons rfl (sub_cons rfl (sub_cons rfl sub_nil)))))) (by decide) (pick_cons rfl (pick_cons rfl (pick_cons rfl pick_nil))) (hN6 ())
  refine nx_oxv (last := #[true, true, true, true, true, false, true, false, false]) rfl (oxv_store (i := 0) (o := 0) rfl rfl (lv_sl _ _) ⟨rfl, rfl, rfl, rfl⟩ rfl info22 rfl (H' := [⟨.pointer (some q4), [(Sl Kf r20)], 22, none⟩, ⟨.pointer (some q5), [Vn], 34, none⟩, ⟨.pointer (some q6), [(Vb false)], 4, none⟩]) rfl) rfl rfl bo_nil (wt_none' rfl) rfl fun _ => ?_
  exact tx_pick' [0, 1, 2] (sub_cons rfl (sub_cons rfl (sub_cons rfl (sub_cons rfl (sub_cons rfl sub_nil))))) (by decide) (pick_cons rfl (pick_cons rfl (pick_cons rfl pick_nil))) (hN7 ())
 intro hN4
 refine ax_node (f' := 4) #[true, true, true, false, true, true, false, false, false] (fun (v4 : Unit) => (⟨25, [⟨.fn (.func 57) ⟨[.pointer (some q4), .pointer (some q5), .pointer (some q6)]⟩, #[]⟩], [(4, (Vp q4)), (5, (Vp q5)), (6, (Vp q6)), (20, (Sl Kf r20)), (21, (Sl (Ki .i64) y2.2.2)), (24, (Vb true))], [⟨.pointer (some q4), [Vn], 22, none⟩, ⟨.pointer (some q5), [Vn], 34, none⟩, ⟨.pointer (some q6), [(Vb false)], 4, none⟩]⟩ : St)) ?_ ?_
 ·rintro ⟨⟩
  refine ax_all (i := 3) (is := []) (by kernel_rfl) (all_cons ?_ all_nil)
  ·refine nx_ox (last := #[true, true, true, true, true, true, false, false, false]) rfl (ox_calln' (ent_fn' Try.func60 isn60 rfl rfl) (impl_ints_v2_sim _ hr22 : Sx.Fn Try.prog 60 [(Sl (Ki .i64) y2.2.2)] [] (fun x : Unit => (Sl (Ki .i64) r22)) (fun x => [])) (Hn := fun x : Unit => [⟨.pointer (some q4), [Vn], 22, none⟩, ⟨.pointer (some q5), [Vn], 34, none⟩, ⟨.pointer (some q6), [(Vb false)], 4, none⟩]) (fun _ => rfl) rfl rfl) rfl bs_nil (wt_none' rfl) rfl fun ⟨⟩ => ?_
   exact tx_pick' [0, 1, 2] (sub_cons rfl (sub_cons rfl (sub_cons rfl (sub_cons rfl (sub_cons rfl (sub_cons rfl sub_nil)))))) (by decide) (pick_cons rfl (pick_cons rfl (pick_cons rfl pick_nil))) (hN6 ())
 intro hN5
 refine ax_node (f' := 5) #[true, true, true, false, true, false, false, false, false] (fun (v1 : Unit) => (⟨25, [⟨.fn (.func 57) ⟨[.pointer (some q4), .pointer (some q5), .pointer (some q6)]⟩, #[]⟩], [(4, (Vp q4)), (5, (Vp q5)), (6, (Vp q6)), (20, (Sl Kf r20)), (21, (Sl (Ki .i64) y2.2.2)), (23, Ve)], [⟨.pointer (some q4), [Vn], 22, none⟩, ⟨.pointer (some q5), [Vn], 34, none⟩, ⟨.pointer (some q6), [(Vb false)], 4, none⟩]⟩ : St)) ?_ ?_
 ·rintro ⟨⟩
  refine ax_all (i := 3) (is := [5]) (by kernel_rfl) (all_cons ?_ (all_cons ?_ all_nil))
  ·refine nx_ox (last := #[true, true, true, true, true, false, false, false, false]) rfl (ox_calln' (ent_fn' Try.func60 isn60 rfl rfl) (impl_ints_v2_sim _ hr22 : Sx.Fn Try.prog 60 [(Sl (Ki .i64) y2.2.2)] [] (fun x : Unit => (Sl (Ki .i64) r22)) (fun x => [])) (Hn := fun x : Unit => [⟨.pointer (some q4), [Vn], 22, none⟩, ⟨.pointer (some q5), [Vn], 34, none⟩, ⟨.pointer (some q6), [(Vb false)], 4, none⟩]) (fun _ => rfl) rfl rfl) rfl bs_nil (wt_none' rfl) rfl fun ⟨⟩ => ?_
   exact tx_pick' [0, 1, 2] (sub_cons rfl (sub_cons rfl (sub_cons rfl (sub_cons rfl (sub_cons rfl (sub_cons rfl sub_nil)))))) (by decide) (pick_cons rfl (pick_cons rfl (pick_cons rfl pick_nil))) (hN4 ())
  refine nx_rd (last := #[true, true, true, false, true, true, false, false, false]) rfl (rd_binf' rfl rfl (bf_vl (fun _ => by kernel_rfl) nil_eql113_nilif)) rfl rfl (wt_none' rfl) rfl ?_
  exact tx_pick' [0, 1, 2] (sub_cons rfl (sub_cons rfl (sub_cons rfl (sub_cons rfl (sub_cons rfl (sub_cons rfl sub_nil)))))) (by decide) (pick_cons rfl (pick_cons rfl (pick_cons rfl pick_nil))) (hN5 ())
 intro hN2
 refine ax_node (f' := 5) #[true, false, true, false, true, true, false, false, false] (fun (v2 : Unit) => (⟨25, [⟨.fn (.func 57) ⟨[.pointer (some q4), .pointer (some q5), .pointer (some q6)]⟩, #[]⟩], [(4, (Vp q4)), (5, (Vp q5)), (6, (Vp q6)), (19, (Sl Kf y2.2.1)), (21, (Sl (Ki .i64) y2.2.2)), (24, (Vb true))], [⟨.pointer (some q4), [Vn], 22, none⟩, ⟨.pointer (some q5), [Vn], 34, none⟩, ⟨.pointer (some q6), [(Vb false)], 4, none⟩]⟩ : St)) ?_ ?_
 ·rintro ⟨⟩
  refine ax_all (i := 1) (is := []) (by kernel_rfl) (all_cons ?_ all_nil)
  ·refine nx_ox (last := #[true, true, true, false, true, true, false, false, false]) rfl (ox_calln' (ent_fn' Try.func50 isn50 rfl rfl) (impl_floats_sim _ hr20 : Sx.Fn Try.prog 50 [(Sl Kf y2.2.1)] [] (fun x : Unit => (Sl Kf r20)) (fun x => [])) (Hn := fun x : Unit => [⟨.pointer (some q4), [Vn], 22, none⟩, ⟨.pointer (some q5), [Vn], 34, none⟩, ⟨.pointer (some q6), [(Vb false)], 4, none⟩]) (fun _ => rfl) rfl rfl) rfl bs_nil (wt_none' rfl) rfl fun ⟨⟩ => ?_
   exact tx_pick' [0, 1, 2] (sub_cons rfl (sub_cons rfl (sub_cons rfl (sub_cons rfl (sub_cons rfl (sub_cons rfl sub_nil)))))) (by decide) (pick_cons rfl (pick_cons rfl (pick_cons rfl pick_nil))) (hN5 ())
 intro hN3
 refine ax_all (i := 1) (is := [5]) (by kernel_rfl) (all_cons ?_ (all_cons ?_ all_nil))
 ·refine nx_ox (last := #[true, true, true, false, true, false, false, false, false]) rfl (ox_calln' (ent_fn' Try.func50 isn50 rfl rfl) (impl_floats_sim _ hr20 : Sx.Fn Try.prog 50 [(Sl Kf y2.2.1)] [] (fun x : Unit => (Sl Kf r20)) (fun x => [])) (Hn := fun x : Unit => [(Rw (Kl (Kl Kf)) 152 (Vs g13) y2.1), ⟨.pointer (some q6), [(Vb false)], 4, none⟩, ⟨.pointer (some q5), [Vn], 34, none⟩, ⟨.pointer (some q4), [Vn], 22, none⟩]) (fun _ => rfl) rfl rfl) rfl bs_nil (wt_none' rfl) rfl fun ⟨⟩ => ?_
  exact tx_pick' [3, 2, 1] (sub_cons rfl (sub_cons rfl (sub_cons rfl (sub_cons rfl (sub_cons rfl (sub_cons rfl sub_nil)))))) (by decide) (pick_cons rfl (pick_cons rfl (pick_cons rfl pick_nil))) (hN2 ())
 refine nx_rd (last := #[true, false, true, false, true, true, false, false, false]) rfl (rd_binf' rfl rfl (bf_vl (fun _ => by kernel_rfl) nil_eql113_nilif)) rfl rfl (wt_none' rfl) rfl ?_
 exact tx_pick' [3, 2, 1] (sub_cons rfl (sub_cons rfl (sub_cons rfl (sub_cons rfl (sub_cons rfl (sub_cons rfl sub_nil)))))) (by decide) (pick_cons rfl (pick_cons rfl (pick_cons rfl pick_nil))) (hN3 ())

def spec_SameFloats_l1s (a0 : List Nat) (a1 : List Nat) (k : Nat) (rec1 : Int → Option (Unit ⊕ Unit)) (x1 : Int) : Option (Unit ⊕ Unit) :=
 br (decide (x1 < (a0.length : Int)))
  ((idx a0 x1) >>= fun r17 =>
  (idx a1 x1) >>= fun r23 =>
  br (!decide ((fbits r17) = (fbits r23)))
   (some (.inl ()))
   (rec1 (iadd .i64 x1 1)))
  (some (.inr ()))
def spec_SameFloats_l1 (a0 : List Nat) (a1 : List Nat) : Nat → Int → Option (Unit ⊕ Unit)
 | 0, _ => none
 | k + 1, v => spec_SameFloats_l1s a0 a1 k (spec_SameFloats_l1 a0 a1 k) v
def spec_SameFloats (k : Nat) (a0 : List Nat) (a1 : List Nat) : Option (Bool) :=
 br (!decide ((a0.length : Int) = (a1.length : Int)))
  (some false)
  ((spec_SameFloats_l1 a0 a1 k 0) >>= fun y1 => match y1 with
   | (.inl v2) =>
    (some false)
   | (.inr v3) =>
    (some true))

theorem spec_SameFloats_sim {k : Nat}  (a0 : List Nat) (a1 : List Nat) {out : Bool} (hp : spec_SameFloats k a0 a1 = some out) : Sx.Fn Try.prog 13 [(Sl Kf a0), (Sl Kf a1)] [] (fun w : Unit => (Vb out)) (fun w => []) := by
 unfold spec_SameFloats at hp
 refine fn_of Try.func13 rfl Try.ntmps13 rfl fun E hM => ?_
 refine cr fun K1 hK1 => ?_
 refine s0 (rd_assign' rfl) ?_
 refine nk hK1 ?_
 refine cx_seq' fun K2 hK2 => ?_
 refine cr fun K3 hK3 => ?_
 refine s0 (rd_move' rfl) ?_
 refine s0 (rd_len' rfl Try.underlying22) ?_
 refine s0 (rd_move' rfl) ?_
 refine s0 (rd_len' rfl Try.underlying22) ?_
 refine s0 (rd_bin' rfl rfl eg_int ru_neq) ?_
 refine nk hK3 ?_
 refine cx_cond' rfl (fun h1 => ?_) (fun h1 => ?_)
 ·replace hp := (br_t h1).symm.trans hp
  refine cr fun K4 hK4 => ?_
  refine s0 (rd_assign' rfl) ?_
  refine nk hK4 ?_
  refine cx_retc' ?_
  replace hp := Option.some.inj hp
  subst hp
  refine tx_pick' (L' := [(4, (Vb false))]) (H' := []) [] (sub_cons rfl sub_nil) (by decide) pick_nil ?_
  exact tx_ret1' Try.results13 rfl () (rv_tmp' rfl) (List.Sublist.refl _)
 replace hp := (br_f h1).symm.trans hp
 refine cx_skip' ?_
 show TX E K2 _
 refine tx_k' hK2 ?_
 refine cx_seq' fun K5 hK5 => ?_
 refine cr fun K6 hK6 => ?_
 refine s0 (rd_move' rfl) ?_
 refine s0 (rd_len' rfl Try.underlying22) ?_
 refine s0 (rd_move' rfl) ?_
 refine nk hK6 ?_
 refine cx_block' ?_
 obtain ⟨y1, hy1, hp⟩ := bind_some hp
 refine cx_loopg' (F := spec_SameFloats_l1 a0 a1) (G := fun k R v => spec_SameFloats_l1s a0 a1 k R v) (x := 0) (gh := ()) (fun (v1 : Int) (w1 : Unit) => (⟨28, [], [(1, (Sl Kf a1)), (12, (Sl Kf a0)), (13, (Vi (a0.length : Int))), (14, (Vi v1))], []⟩ : St)) (fun (y : Unit ⊕ Unit) => match y with | (.inl v2) => Zg E Exit.ret (fun (w2 : Unit) => (⟨28, [], [(4, (Vb false))], []⟩ : St)) | (.inr v3) => Zg E (Exit.exit 0) (fun (w3 : Unit) => (⟨28, [], [], []⟩ : St))) (fun _ => rfl) (fun _ _ => rfl) ?_ hy1 (tx_to' rfl [] (sub_cons rfl (sub_cons rfl (sub_cons rfl (sub_cons rfl sub_nil)))) (by decide) pick_nil) ?_
 ·clear hp hy1
  clear y1
  intro k rec1 KY1 ih1
  rintro x1 ⟨⟩ y1 hp
  replace hp : spec_SameFloats_l1s a0 a1 k rec1 x1 = some y1 := hp
  unfold spec_SameFloats_l1s at hp
  refine cr fun K13 hK13 => ?_
  refine s0 (rd_bin' rfl rfl eg_int ru_lss) ?_
  refine nk hK13 ?_
  refine cx_seq' fun K14 hK14 => ?_
  refine cx_cond' rfl (fun h5 => ?_) (fun h5 => ?_)
  ·replace hp := (br_t h5).symm.trans hp
   refine cx_skip' ?_
   show TX E K14 _
   refine tx_k' hK14 ?_
   refine cx_seq' fun K15 hK15 => ?_
   refine cx_block' ?_
   refine cr fun K16 hK16 => ?_
   refine s0 (rd_move' rfl) ?_
   obtain ⟨r17, hr17, hp⟩ := bind_some hp
   refine s0 (rd_at' (K := Kf) rfl rfl hr17 Try.underlying22 info38) ?_
   refine s0 (rd_load_pt' rfl rfl flat38) ?_
   refine s0 (rd_assign' rfl) ?_
   refine s0 (rd_assign' rfl) ?_
   refine nk hK16 ?_
   refine cx_seq' fun K17 hK17 => ?_
   refine cx_draw' mixed (by kernel_rfl) ?_
   refine qx_rd' (rd_move' rfl) rfl rfl (wt_none' rfl) ?_
   refine qx_rd' (rd_ext' (us := [.float .f64 r17]) rfl (ext53 ex_bits)) rfl rfl (wt_none' rfl) ?_
   refine qx_rd' (rd_move' rfl) rfl rfl (wt_none' rfl) ?_
   refine qx_rd' (rd_move' rfl) rfl rfl (wt_none' rfl) ?_
   obtain ⟨r23, hr23, hp⟩ := bind_some hp
   refine qx_rd' (rd_at' (K := Kf) rfl rfl hr23 Try.underlying22 info38) rfl rfl (wt_none' rfl) ?_
   refine qx_rd' (rd_load_pt' rfl rfl flat38) rfl rfl (wt_none' rfl) ?_
   refine qx_rd' (rd_ext' (us := [.float .f64 r23]) rfl (ext53 ex_bits)) rfl rfl (wt_none' rfl) ?_
   refine qx_rd' (rd_bin' rfl rfl eg_int ru_neq) rfl rfl (wt_none' rfl) ?_
   refine qx_nil' ?_
   show TX E K17 _
   refine tx_k' hK17 ?_
   refine cx_cond' rfl (fun h6 => ?_) (fun h6 => ?_)
   ·replace hp := (br_t h6).symm.trans hp
    refine cr fun K18 hK18 => ?_
    refine s0 (rd_assign' rfl) ?_
    refine nk hK18 ?_
    refine cx_retc' ?_
    replace hp := Option.some.inj hp
    subst hp
    show TX E (Zg E Exit.ret _ Exit.ret) _
    exact tx_zend' () rfl [] (sub_cons rfl sub_nil) (by decide) pick_nil
   replace hp := (br_f h6).symm.trans hp
   refine cx_skip' ?_
   show TX E K15 _
   refine tx_k' hK15 ?_
   refine cx_region' ?_
   refine s0 (rd_bin' rfl rfl eg_int ru_add) ?_
   refine s0 (rd_move' rfl) ?_
   refine sx_nil' ?_
   show TX E (KY1 _) _
   exact tx_pick' [] (sub_cons rfl (sub_cons rfl (sub_cons rfl (sub_cons rfl sub_nil)))) (by decide) pick_nil (ih1 (iadd .i64 x1 1) () _ hp)
  replace hp := (br_f h5).symm.trans hp
  refine cx_exit' ?_
  replace hp := Option.some.inj hp
  subst hp
  show TX E (Zg E (Exit.exit 0) _ (Exit.exit 0)) _
  exact tx_zend' () rfl [] sub_nil (by decide) pick_nil
 rcases y1 with v2 | v3
 ·dsimp only at hp
  refine zg_out fun w2 => ?_
  replace hp := Option.some.inj hp
  subst hp
  refine tx_pick' (L' := [(4, (Vb false))]) (H' := []) [] (sub_cons rfl sub_nil) (by decide) pick_nil ?_
  exact tx_ret1' Try.results13 rfl () (rv_tmp' rfl) (List.Sublist.refl _)
 dsimp only at hp
 refine zg_out fun w3 => ?_
 show TX E K5 _
 refine tx_k' hK5 ?_
 refine cr fun K19 hK19 => ?_
 refine s0 (rd_assign' rfl) ?_
 refine nk hK19 ?_
 refine cx_retc' ?_
 replace hp := Option.some.inj hp
 subst hp
 refine tx_pick' (L' := [(4, (Vb true))]) (H' := []) [] (sub_cons rfl sub_nil) (by decide) pick_nil ?_
 exact tx_ret1' Try.results13 rfl () (rv_tmp' rfl) (List.Sublist.refl _)

def laws_gInts_l1s (a0 : List Int) (a1 : List Int) (k : Nat) (rec1 : Int → Option (Unit ⊕ Unit)) (x1 : Int) : Option (Unit ⊕ Unit) :=
 br (decide (x1 < (a0.length : Int)))
  ((idx a0 x1) >>= fun r17 =>
  (idx a1 x1) >>= fun r22 =>
  br (!decide (r17 = r22))
   (some (.inl ()))
   (rec1 (iadd .i64 x1 1)))
  (some (.inr ()))
def laws_gInts_l1 (a0 : List Int) (a1 : List Int) : Nat → Int → Option (Unit ⊕ Unit)
 | 0, _ => none
 | k + 1, v => laws_gInts_l1s a0 a1 k (laws_gInts_l1 a0 a1 k) v
def laws_gInts (k : Nat) (a0 : List Int) (a1 : List Int) : Option (Bool) :=
 br (!decide ((a0.length : Int) = (a1.length : Int)))
  (some false)
  ((laws_gInts_l1 a0 a1 k 0) >>= fun y1 => match y1 with
   | (.inl v2) =>
    (some false)
   | (.inr v3) =>
    (some true))

theorem laws_gInts_sim {k : Nat}  (a0 : List Int) (a1 : List Int) {out : Bool} (hp : laws_gInts k a0 a1 = some out) : Sx.Fn Try.prog 20 [(Sl (Ki .i64) a0), (Sl (Ki .i64) a1)] [] (fun w : Unit => (Vb out)) (fun w => []) := by
 unfold laws_gInts at hp
 refine fn_of Try.func20 rfl Try.ntmps20 rfl fun E hM => ?_
 refine cr fun K1 hK1 => ?_
 refine s0 (rd_assign' rfl) ?_
 refine nk hK1 ?_
 refine cx_seq' fun K2 hK2 => ?_
 refine cr fun K3 hK3 => ?_
 refine s0 (rd_move' rfl) ?_
 refine s0 (rd_len' rfl Try.underlying34) ?_
 refine s0 (rd_move' rfl) ?_
 refine s0 (rd_len' rfl Try.underlying34) ?_
 refine s0 (rd_bin' rfl rfl eg_int ru_neq) ?_
 refine nk hK3 ?_
 refine cx_cond' rfl (fun h1 => ?_) (fun h1 => ?_)
 ·replace hp := (br_t h1).symm.trans hp
  refine cr fun K4 hK4 => ?_
  refine s0 (rd_assign' rfl) ?_
  refine nk hK4 ?_
  refine cx_retc' ?_
  replace hp := Option.some.inj hp
  subst hp
  refine tx_pick' (L' := [(4, (Vb false))]) (H' := []) [] (sub_cons rfl sub_nil) (by decide) pick_nil ?_
  exact tx_ret1' Try.results20 rfl () (rv_tmp' rfl) (List.Sublist.refl _)
 replace hp := (br_f h1).symm.trans hp
 refine cx_skip' ?_
 show TX E K2 _
 refine tx_k' hK2 ?_
 refine cx_seq' fun K5 hK5 => ?_
 refine cr fun K6 hK6 => ?_
 refine s0 (rd_move' rfl) ?_
 refine s0 (rd_len' rfl Try.underlying34) ?_
 refine s0 (rd_move' rfl) ?_
 refine nk hK6 ?_
 refine cx_block' ?_
 obtain ⟨y1, hy1, hp⟩ := bind_some hp
 refine cx_loopg' (F := laws_gInts_l1 a0 a1) (G := fun k R v => laws_gInts_l1s a0 a1 k R v) (x := 0) (gh := ()) (fun (v1 : Int) (w1 : Unit) => (⟨26, [], [(1, (Sl (Ki .i64) a1)), (12, (Sl (Ki .i64) a0)), (13, (Vi (a0.length : Int))), (14, (Vi v1))], []⟩ : St)) (fun (y : Unit ⊕ Unit) => match y with | (.inl v2) => Zg E Exit.ret (fun (w2 : Unit) => (⟨26, [], [(4, (Vb false))], []⟩ : St)) | (.inr v3) => Zg E (Exit.exit 0) (fun (w3 : Unit) => (⟨26, [], [], []⟩ : St))) (fun _ => rfl) (fun _ _ => rfl) ?_ hy1 (tx_to' rfl [] (sub_cons rfl (sub_cons rfl (sub_cons rfl (sub_cons rfl sub_nil)))) (by decide) pick_nil) ?_
 ·clear hp hy1
  clear y1
  intro k rec1 KY1 ih1
  rintro x1 ⟨⟩ y1 hp
  replace hp : laws_gInts_l1s a0 a1 k rec1 x1 = some y1 := hp
  unfold laws_gInts_l1s at hp
  refine cr fun K13 hK13 => ?_
  refine s0 (rd_bin' rfl rfl eg_int ru_lss) ?_
  refine nk hK13 ?_
  refine cx_seq' fun K14 hK14 => ?_
  refine cx_cond' rfl (fun h5 => ?_) (fun h5 => ?_)
  ·replace hp := (br_t h5).symm.trans hp
   refine cx_skip' ?_
   show TX E K14 _
   refine tx_k' hK14 ?_
   refine cx_seq' fun K15 hK15 => ?_
   refine cx_block' ?_
   refine cr fun K16 hK16 => ?_
   refine s0 (rd_move' rfl) ?_
   obtain ⟨r17, hr17, hp⟩ := bind_some hp
   refine s0 (rd_at' (K := (Ki .i64)) rfl rfl hr17 Try.underlying34 info3) ?_
   refine s0 (rd_load_pt' rfl rfl flat3) ?_
   refine s0 (rd_assign' rfl) ?_
   refine s0 (rd_assign' rfl) ?_
   refine nk hK16 ?_
   refine cr fun K17 hK17 => ?_
   refine s0 (rd_move' rfl) ?_
   refine s0 (rd_move' rfl) ?_
   refine s0 (rd_move' rfl) ?_
   obtain ⟨r22, hr22, hp⟩ := bind_some hp
   refine s0 (rd_at' (K := (Ki .i64)) rfl rfl hr22 Try.underlying34 info3) ?_
   refine s0 (rd_load_pt' rfl rfl flat3) ?_
   refine s0 (rd_bin' rfl rfl eg_int ru_neq) ?_
   refine nk hK17 ?_
   refine cx_cond' rfl (fun h6 => ?_) (fun h6 => ?_)
   ·replace hp := (br_t h6).symm.trans hp
    refine cr fun K18 hK18 => ?_
    refine s0 (rd_assign' rfl) ?_
    refine nk hK18 ?_
    refine cx_retc' ?_
    replace hp := Option.some.inj hp
    subst hp
    show TX E (Zg E Exit.ret _ Exit.ret) _
    exact tx_zend' () rfl [] (sub_cons rfl sub_nil) (by decide) pick_nil
   replace hp := (br_f h6).symm.trans hp
   refine cx_skip' ?_
   show TX E K15 _
   refine tx_k' hK15 ?_
   refine cx_region' ?_
   refine s0 (rd_bin' rfl rfl eg_int ru_add) ?_
   refine s0 (rd_move' rfl) ?_
   refine sx_nil' ?_
   show TX E (KY1 _) _
   exact tx_pick' [] (sub_cons rfl (sub_cons rfl (sub_cons rfl (sub_cons rfl sub_nil)))) (by decide) pick_nil (ih1 (iadd .i64 x1 1) () _ hp)
  replace hp := (br_f h5).symm.trans hp
  refine cx_exit' ?_
  replace hp := Option.some.inj hp
  subst hp
  show TX E (Zg E (Exit.exit 0) _ (Exit.exit 0)) _
  exact tx_zend' () rfl [] sub_nil (by decide) pick_nil
 rcases y1 with v2 | v3
 ·dsimp only at hp
  refine zg_out fun w2 => ?_
  replace hp := Option.some.inj hp
  subst hp
  refine tx_pick' (L' := [(4, (Vb false))]) (H' := []) [] (sub_cons rfl sub_nil) (by decide) pick_nil ?_
  exact tx_ret1' Try.results20 rfl () (rv_tmp' rfl) (List.Sublist.refl _)
 dsimp only at hp
 refine zg_out fun w3 => ?_
 show TX E K5 _
 refine tx_k' hK5 ?_
 refine cr fun K19 hK19 => ?_
 refine s0 (rd_assign' rfl) ?_
 refine nk hK19 ?_
 refine cx_retc' ?_
 replace hp := Option.some.inj hp
 subst hp
 refine tx_pick' (L' := [(4, (Vb true))]) (H' := []) [] (sub_cons rfl sub_nil) (by decide) pick_nil ?_
 exact tx_ret1' Try.results20 rfl () (rv_tmp' rfl) (List.Sublist.refl _)

def laws_FnDeflate2_j5 (k : Nat) (x5 : Bool) : Option (Bool) :=
 some x5
def laws_FnDeflate2_j4 (k : Nat) (x4 : Bool) : Option (Bool) :=
 laws_FnDeflate2_j5 k x4
def laws_FnDeflate2_j3 (k : Nat) (x3 : Bool) : Option (Bool) :=
 laws_FnDeflate2_j4 k x3
def laws_FnDeflate2_j2 (k : Nat) (r37 : (List Nat) × (List Int) × Bool) (r30 : (List Nat) × (List Int) × Bool) (x2 : Bool) : Option (Bool) :=
 br x2
  (br (!r37.2.2)
   (laws_FnDeflate2_j4 k true)
   ((spec_SameFloats k r37.1 r30.1) >>= fun r61 =>
   br r61
    ((laws_gInts k r37.2.1 r30.2.1) >>= fun r65 =>
    laws_FnDeflate2_j3 k r65)
    (laws_FnDeflate2_j3 k false)))
  (laws_FnDeflate2_j5 k false)
def laws_FnDeflate2_j1 (k : Nat) (a1 : Int) (a0 : List (List (List Nat))) (x1 : Bool) : Option (Bool) :=
 br x1
  (some true)
  ((laws_fLayout k a1) >>= fun r28 =>
  (laws_gFlats k r28 0 a0) >>= fun r30 =>
  (impl_Deflate2 k a0 a1) >>= fun r37 =>
  (impl_Deflate2_v2 k ([[[4607182418800017408, 4611686018427387904]]]) 2) >>= fun r45 =>
  br r45.2.2
   (laws_FnDeflate2_j2 k r37 r30 (r37.2.2 == r30.2.2))
   (laws_FnDeflate2_j2 k r37 r30 false))
def laws_FnDeflate2 (k : Nat) (a0 : List (List (List Nat))) (a1 : Int) : Option (Bool) :=
 (laws_zzFits5 k a0) >>= fun r15 =>
 br (!r15)
  (some true)
  ((laws_fStride k a1) >>= fun r18 =>
  br (!r18)
   (laws_FnDeflate2_j1 k a1 a0 true)
   ((laws_fCoords k ([a0])) >>= fun r23 =>
   laws_FnDeflate2_j1 k a1 a0 (!r23)))

theorem laws_FnDeflate2_sim {k : Nat}  (a0 : List (List (List Nat))) (a1 : Int) {out : Bool} (hp : laws_FnDeflate2 k a0 a1 = some out) : Sx.Fn Try.prog 4 [(Sl (Kl (Kl Kf)) a0), (Vi a1)] [] (fun w : Unit => (Vb out)) (fun w => []) := by
 unfold laws_FnDeflate2 at hp
 refine fn_of Try.func4 rfl Try.ntmps4 rfl fun E hM => ?_
 refine cr fun K1 hK1 => ?_
 refine s0 (rd_assign' rfl) ?_
 refine nk hK1 ?_
 refine cx_seq' fun K2 hK2 => ?_
 refine cr fun K3 hK3 => ?_
 refine s0 (rd_move' rfl) ?_
 obtain ⟨r15, hr15, hp⟩ := bind_some hp
 refine sx_ox' (ox_calln' (ent_fn' Try.func14 isn14 rfl rfl) (laws_zzFits5_sim _ hr15 : Sx.Fn Try.prog 14 [(Sl (Kl (Kl Kf)) a0)] [] (fun x : Unit => (Vb r15)) (fun x => [])) (Hn := fun x : Unit => []) (fun _ => rfl) rfl rfl) (wt_none' rfl) fun ⟨⟩ => ?_
 refine s0 (rd_un' rfl ru_not) ?_
 refine nk hK3 ?_
 refine cx_cond' rfl (fun h1 => ?_) (fun h1 => ?_)
 ·replace hp := (br_t h1).symm.trans hp
  refine cr fun K4 hK4 => ?_
  refine s0 (rd_assign' rfl) ?_
  refine nk hK4 ?_
  refine cx_retc' ?_
  replace hp := Option.some.inj hp
  subst hp
  refine tx_pick' (L' := [(4, (Vb true))]) (H' := []) [] (sub_cons rfl sub_nil) (by decide) pick_nil ?_
  exact tx_ret1' Try.results4 rfl () (rv_tmp' rfl) (List.Sublist.refl _)
 replace hp := (br_f h1).symm.trans hp
 refine cx_skip' ?_
 show TX E K2 _
 refine tx_k' hK2 ?_
 refine cx_seq' fun K5 hK5 => ?_
 refine cr fun K6 hK6 => ?_
 refine s0 (rd_move' rfl) ?_
 obtain ⟨r18, hr18, hp⟩ := bind_some hp
 refine sx_ox' (ox_calln' (ent_fn' Try.func15 isn15 rfl rfl) (laws_fStride_sim _ hr18 : Sx.Fn Try.prog 15 [(Vi a1)] [] (fun x : Unit => (Vb r18)) (fun x => [])) (Hn := fun x : Unit => []) (fun _ => rfl) rfl rfl) (wt_none' rfl) fun ⟨⟩ => ?_
 refine s0 (rd_un' rfl ru_not) ?_
 refine s0 (rd_move' rfl) ?_
 refine sx_cutn' 5 (fun (v1 : Bool) => (⟨69, [], [(0, (Sl (Kl (Kl Kf)) a0)), (1, (Vi a1)), (25, (Vb v1))], []⟩ : St)) (fun (v1 : Bool) => laws_FnDeflate2_j1 k a1 a0 v1 = some out) ?_ ?_
 ·rintro x1 hp
  replace hp : laws_FnDeflate2_j1 k a1 a0 x1 = some out := hp
  unfold laws_FnDeflate2_j1 at hp
  refine nk hK6 ?_
  refine cx_cond' rfl (fun h3 => ?_) (fun h3 => ?_)
  ·replace hp := (br_t h3).symm.trans hp
   refine cr fun K8 hK8 => ?_
   refine s0 (rd_assign' rfl) ?_
   refine nk hK8 ?_
   refine cx_retc' ?_
   replace hp := Option.some.inj hp
   subst hp
   refine tx_pick' (L' := [(4, (Vb true))]) (H' := []) [] (sub_cons rfl sub_nil) (by decide) pick_nil ?_
   exact tx_ret1' Try.results4 rfl () (rv_tmp' rfl) (List.Sublist.refl _)
  replace hp := (br_f h3).symm.trans hp
  refine cx_skip' ?_
  show TX E K5 _
  refine tx_k' hK5 ?_
  refine cr fun K9 hK9 => ?_
  refine s0 (rd_move' rfl) ?_
  obtain ⟨r28, hr28, hp⟩ := bind_some hp
  refine sx_ox' (ox_calln' (ent_fn' Try.func18 isn18 rfl rfl) (laws_fLayout_sim _ hr28 : Sx.Fn Try.prog 18 [(Vi a1)] [] (fun x : Unit => (Vi r28)) (fun x => [])) (Hn := fun x : Unit => []) (fun _ => rfl) rfl rfl) (wt_none' rfl) fun ⟨⟩ => ?_
  refine s0 (rd_move' rfl) ?_
  obtain ⟨r30, hr30, hp⟩ := bind_some hp
  refine sx_ox' (ox_calln' (ent_fn' Try.func17 isn17 rfl rfl) (laws_gFlats_sim _ _ _ hr30 : Sx.Fn Try.prog 17 [(Vi r28), (Vi 0), (Sl (Kl (Kl Kf)) a0)] [] (fun x : Unit => (Tu [(Sl Kf r30.1), (Sl (Ki .i64) r30.2.1), (Vb r30.2.2)])) (fun x => [])) (Hn := fun x : Unit => []) (fun _ => rfl) rfl rfl) (wt_none' rfl) fun ⟨⟩ => ?_
  refine s0 (rd_move' rfl) ?_
  refine s0 (rd_extract' rfl rfl) ?_
  refine s0 (rd_extract' rfl rfl) ?_
  refine s0 (rd_extract' rfl rfl) ?_
  refine s0 (rd_assign' rfl) ?_
  refine s0 (rd_assign' rfl) ?_
  refine s0 (rd_assign' rfl) ?_
  refine nk hK9 ?_
  refine cr fun K10 hK10 => ?_
  refine s0 (rd_move' rfl) ?_
  refine s0 (rd_move' rfl) ?_
  obtain ⟨r37, hr37, hp⟩ := bind_some hp
  refine sx_ox' (ox_calln' (ent_fn' Try.func19 isn19 rfl rfl) (impl_Deflate2_sim _ _ hr37 : Sx.Fn Try.prog 19 [(Sl (Kl (Kl Kf)) a0), (Vi a1)] [] (fun x : Unit => (Tu [(Sl Kf r37.1), (Sl (Ki .i64) r37.2.1), (Vb r37.2.2)])) (fun x => [])) (Hn := fun x : Unit => []) (fun _ => rfl) rfl rfl) (wt_none' rfl) fun ⟨⟩ => ?_
  refine s0 (rd_move' rfl) ?_
  refine s0 (rd_extract' rfl rfl) ?_
  refine s0 (rd_extract' rfl rfl) ?_
  refine s0 (rd_extract' rfl rfl) ?_
  refine s0 (rd_assign' rfl) ?_
  refine s0 (rd_assign' rfl) ?_
  refine s0 (rd_assign' rfl) ?_
  refine nk hK10 ?_
  refine cr fun K11 hK11 => ?_
  refine sx_ox' (ox_rowlit' (K := Kf) (xs := [4607182418800017408, 4611686018427387904]) (qs := [(0, [(Vg 4607182418800017408)]), (1, [(Vg 4611686018427387904)])]) ⟨rfl, ⟨_, rfl, (lv_vl rfl rfl)⟩, ⟨rfl, ⟨_, rfl, (lv_vl rfl rfl)⟩, trivial⟩⟩ Try.underlying22 info38 rfl rfl rfl rfl rfl (by kernel_rfl) rfl rfl rfl) (wt_none' rfl) fun g42 => ?_
  refine tx_fz' (frz_row 0 [(42, (Vl (Vs g42)), (Sl Kf ([4607182418800017408, 4611686018427387904])))] (K := Kf) (xs := [4607182418800017408, 4611686018427387904]) (by decide) rfl ⟨⟨rfl, frz_it⟩, trivial⟩ (H' := []) frzH_refl) ?_
  refine sx_ox' (ox_rowlit' (K := (Kl Kf)) (xs := [[4607182418800017408, 4611686018427387904]]) (qs := [(0, [(Sl Kf ([4607182418800017408, 4611686018427387904]))])]) ⟨rfl, ⟨_, rfl, (lv_sl _ _)⟩, trivial⟩ Try.underlying39 info22 rfl rfl rfl rfl rfl (by kernel_rfl) rfl rfl rfl) (wt_none' rfl) fun g43 => ?_
  refine tx_fz' (frz_row 0 [(43, (Vl (Vs g43)), (Sl (Kl Kf) ([[4607182418800017408, 4611686018427387904]])))] (K := (Kl Kf)) (xs := [[4607182418800017408, 4611686018427387904]]) (by decide) rfl ⟨⟨rfl, frz_it⟩, trivial⟩ (H' := []) frzH_refl) ?_
  refine sx_ox' (ox_rowlit' (K := (Kl (Kl Kf))) (xs := [[[4607182418800017408, 4611686018427387904]]]) (qs := [(0, [(Sl (Kl Kf) ([[4607182418800017408, 4611686018427387904]]))])]) ⟨rfl, ⟨_, rfl, (lv_sl _ _)⟩, trivial⟩ Try.underlying29 info39 rfl rfl rfl rfl rfl (by kernel_rfl) rfl rfl rfl) (wt_none' rfl) fun g44 => ?_
  obtain ⟨r45, hr45, hp⟩ := bind_some hp
  refine sx_ox' (ox_callg' (ent_fn' Try.func19 isn19 rfl rfl) (impl_Deflate2_v2_sim _ _ hr45 : Sx.Fn Try.prog 19 [(Vl (Vs g44)), (Vi 2)] [(Rw (Kl (Kl Kf)) 39 (Vs g44) ([[[4607182418800017408, 4611686018427387904]]]))] (fun x : Unit => (Tu [(Sl Kf r45.1), (Sl (Ki .i64) r45.2.1), (Vb r45.2.2)])) (fun x => [])) [0] [] (by decide) (pick_cons rfl pick_nil) pick_nil (Hn := fun x : Unit => []) (fun _ => rfl) rfl rfl) (wt_none' rfl) fun ⟨⟩ => ?_
  refine s0 (rd_move' rfl) ?_
  refine s0 (rd_extract' rfl rfl) ?_
  refine s0 (rd_extract' rfl rfl) ?_
  refine s0 (rd_extract' rfl rfl) ?_
  refine s0 (rd_assign' rfl) ?_
  refine s0 (rd_assign' rfl) ?_
  refine s0 (rd_assign' rfl) ?_
  refine nk hK11 ?_
  refine cr fun K12 hK12 => ?_
  refine s0 (rd_move' rfl) ?_
  refine s0 (rd_move' rfl) ?_
  refine sx_cutn' 4 (fun (v2 : Bool) => (⟨69, [], [(5, (Sl Kf r30.1)), (6, (Sl (Ki .i64) r30.2.1)), (8, (Sl Kf r37.1)), (9, (Sl (Ki .i64) r37.2.1)), (10, (Vb r37.2.2)), (54, (Vb v2))], []⟩ : St)) (fun (v2 : Bool) => laws_FnDeflate2_j2 k r37 r30 v2 = some out) ?_ ?_
  ·rintro x2 hp
   replace hp : laws_FnDeflate2_j2 k r37 r30 x2 = some out := hp
   unfold laws_FnDeflate2_j2 at hp
   refine s0 (rd_move' rfl) ?_
   refine sx_cutn' 13 (fun (v5 : Bool) => (⟨69, [], [(68, (Vb v5))], []⟩ : St)) (fun (v5 : Bool) => laws_FnDeflate2_j5 k v5 = some out) ?_ ?_
   ·rintro x5 hp
    replace hp : laws_FnDeflate2_j5 k x5 = some out := hp
    unfold laws_FnDeflate2_j5 at hp
    refine s0 (rd_assign' rfl) ?_
    refine nk hK12 ?_
    refine cx_retc' ?_
    replace hp := Option.some.inj hp
    subst hp
    refine tx_pick' (L' := [(4, (Vb x5))]) (H' := []) [] (sub_cons rfl sub_nil) (by decide) pick_nil ?_
    exact tx_ret1' Try.results4 rfl () (rv_tmp' rfl) (List.Sublist.refl _)
   intro K16 hK16
   rcases br_cases hp with ⟨h5, hp⟩ | ⟨h5, hp⟩
   ·refine sx_rd' (rd_move' rfl) rfl rfl (wt_is' (wt_guard' rfl rfl rfl) (beq_tt h5)) ?_
    refine sx_rd' (rd_un' rfl ru_not) rfl rfl (wt_is' (wt_guard' rfl rfl rfl) (beq_tt h5)) ?_
    refine sx_rd' (rd_move' rfl) rfl rfl (wt_is' (wt_guard' rfl rfl rfl) (beq_tt h5)) ?_
    refine sx_cutn' 10 (fun (v4 : Bool) => (⟨69, [], [(68, (Vb v4))], []⟩ : St)) (fun (v4 : Bool) => laws_FnDeflate2_j4 k v4 = some out) ?_ ?_
    ·rintro x4 hp
     replace hp : laws_FnDeflate2_j4 k x4 = some out := hp
     unfold laws_FnDeflate2_j4 at hp
     refine sx_nil' ?_
     show TX E K16 _
     exact tx_pick' [] (sub_cons rfl sub_nil) (by decide) pick_nil (hK16 x4 hp)
    intro K15 hK15
    rcases br_cases hp with ⟨h6, hp⟩ | ⟨h6, hp⟩
    ·refine sx_skip' rfl rfl (wt_is' (wt_guard' rfl rfl rfl) (beq_tf h6)) ?_
     refine sx_skip' rfl rfl (wt_is' (wt_guard' rfl rfl rfl) (beq_tf h6)) ?_
     refine sx_skip' rfl rfl (wt_is' (wt_guard' rfl rfl rfl) (beq_tf h6)) ?_
     refine sx_skip' rfl rfl (wt_is' (wt_guard' rfl rfl rfl) (beq_tf h6)) ?_
     refine sx_skip' rfl rfl (wt_undef' rfl rfl rfl) ?_
     refine sx_skip' rfl rfl (wt_undef' rfl rfl rfl) ?_
     refine sx_skip' rfl rfl (wt_undef' rfl rfl rfl) ?_
     refine sx_skip' rfl rfl (wt_is' (wt_guard' rfl rfl rfl) (beq_tf h6)) ?_
     refine sx_rd' (rd_pick_true' rfl h6 rfl) rfl rfl (wt_is' (wt_guard' rfl rfl rfl) (beq_tt h5)) ?_
     refine s0 (rd_pick_true' rfl h5 rfl) ?_
     refine sx_nil' ?_
     show TX E K15 _
     exact tx_pick' [] (sub_cons rfl sub_nil) (by decide) pick_nil (hK15 true hp)
    refine sx_rd' (rd_move' rfl) rfl rfl (wt_is' (wt_guard' rfl rfl rfl) (beq_ff h6)) ?_
    refine sx_rd' (rd_move' rfl) rfl rfl (wt_is' (wt_guard' rfl rfl rfl) (beq_ff h6)) ?_
    obtain ⟨r61, hr61, hp⟩ := bind_some hp
    refine sx_ox' (ox_calln' (ent_fn' Try.func13 isn13 rfl rfl) (spec_SameFloats_sim _ _ hr61 : Sx.Fn Try.prog 13 [(Sl Kf r37.1), (Sl Kf r30.1)] [] (fun x : Unit => (Vb r61)) (fun x => [])) (Hn := fun x : Unit => []) (fun _ => rfl) rfl rfl) (wt_is' (wt_guard' rfl rfl rfl) (beq_ff h6)) fun ⟨⟩ => ?_
    refine sx_rd' (rd_move' rfl) rfl rfl (wt_is' (wt_guard' rfl rfl rfl) (beq_ff h6)) ?_
    refine sx_cutn' 6 (fun (v3 : Bool) => (⟨69, [], [(68, (Vb v3))], []⟩ : St)) (fun (v3 : Bool) => laws_FnDeflate2_j3 k v3 = some out) ?_ ?_
    ·rintro x3 hp
     replace hp : laws_FnDeflate2_j3 k x3 = some out := hp
     unfold laws_FnDeflate2_j3 at hp
     refine sx_nil' ?_
     show TX E K15 _
     exact tx_pick' [] (sub_cons rfl sub_nil) (by decide) pick_nil (hK15 x3 hp)
    intro K14 hK14
    rcases br_cases hp with ⟨h7, hp⟩ | ⟨h7, hp⟩
    ·refine sx_rd' (rd_move' rfl) rfl rfl (wt_is' (wt_guard' rfl rfl rfl) (beq_tt h7)) ?_
     refine sx_rd' (rd_move' rfl) rfl rfl (wt_is' (wt_guard' rfl rfl rfl) (beq_tt h7)) ?_
     obtain ⟨r65, hr65, hp⟩ := bind_some hp
     refine sx_ox' (ox_calln' (ent_fn' Try.func20 isn20 rfl rfl) (laws_gInts_sim _ _ hr65 : Sx.Fn Try.prog 20 [(Sl (Ki .i64) r37.2.1), (Sl (Ki .i64) r30.2.1)] [] (fun x : Unit => (Vb r65)) (fun x => [])) (Hn := fun x : Unit => []) (fun _ => rfl) rfl rfl) (wt_is' (wt_guard' rfl rfl rfl) (beq_tt h7)) fun ⟨⟩ => ?_
     refine sx_rd' (rd_pick_true' rfl h7 rfl) rfl rfl (wt_is' (wt_guard' rfl rfl rfl) (beq_ff h6)) ?_
     refine sx_rd' (rd_pick_false' rfl h6 rfl) rfl rfl (wt_is' (wt_guard' rfl rfl rfl) (beq_tt h5)) ?_
     refine s0 (rd_pick_true' rfl h5 rfl) ?_
     refine sx_nil' ?_
     show TX E K14 _
     exact tx_pick' [] (sub_cons rfl sub_nil) (by decide) pick_nil (hK14 r65 hp)
    refine sx_skip' rfl rfl (wt_is' (wt_guard' rfl rfl rfl) (beq_ft h7)) ?_
    refine sx_skip' rfl rfl (wt_is' (wt_guard' rfl rfl rfl) (beq_ft h7)) ?_
    refine sx_skip' rfl rfl (wt_is' (wt_guard' rfl rfl rfl) (beq_ft h7)) ?_
    refine sx_rd' (rd_pick_false' rfl h7 rfl) rfl rfl (wt_is' (wt_guard' rfl rfl rfl) (beq_ff h6)) ?_
    refine sx_rd' (rd_pick_false' rfl h6 rfl) rfl rfl (wt_is' (wt_guard' rfl rfl rfl) (beq_tt h5)) ?_
    refine s0 (rd_pick_true' rfl h5 rfl) ?_
    refine sx_nil' ?_
    show TX E K14 _
    exact tx_pick' [] (sub_cons rfl sub_nil) (by decide) pick_nil (hK14 false hp)
   refine sx_skip' rfl rfl (wt_is' (wt_guard' rfl rfl rfl) (beq_ft h5)) ?_
   refine sx_skip' rfl rfl (wt_is' (wt_guard' rfl rfl rfl) (beq_ft h5)) ?_
   refine sx_skip' rfl rfl (wt_is' (wt_guard' rfl rfl rfl) (beq_ft h5)) ?_
   refine sx_skip' rfl rfl (wt_undef' rfl rfl rfl) ?_
   refine sx_skip' rfl rfl (wt_undef' rfl rfl rfl) ?_
   refine sx_skip' rfl rfl (wt_undef' rfl rfl rfl) ?_
   refine sx_skip' rfl rfl (wt_undef' rfl rfl rfl) ?_
   refine sx_skip' rfl rfl (wt_undef' rfl rfl rfl) ?_
   refine sx_skip' rfl rfl (wt_undef' rfl rfl rfl) ?_
   refine sx_skip' rfl rfl (wt_undef' rfl rfl rfl) ?_
   refine sx_skip' rfl rfl (wt_undef' rfl rfl rfl) ?_
   refine sx_skip' rfl rfl (wt_is' (wt_guard' rfl rfl rfl) (beq_ft h5)) ?_
   refine s0 (rd_pick_false' rfl h5 rfl) ?_
   refine sx_nil' ?_
   show TX E K16 _
   exact tx_pick' [] (sub_cons rfl sub_nil) (by decide) pick_nil (hK16 false hp)
  intro K13 hK13
  rcases br_cases hp with ⟨h4, hp⟩ | ⟨h4, hp⟩
  ·refine sx_rd' (rd_move' rfl) rfl rfl (wt_is' (wt_guard' rfl rfl rfl) (beq_tt h4)) ?_
   refine sx_rd' (rd_move' rfl) rfl rfl (wt_is' (wt_guard' rfl rfl rfl) (beq_tt h4)) ?_
   refine sx_rd' (rd_bin' rfl rfl eg_bool (ru_beq Try.underlying4)) rfl rfl (wt_is' (wt_guard' rfl rfl rfl) (beq_tt h4)) ?_
   refine s0 (rd_pick_true' rfl h4 rfl) ?_
   refine sx_nil' ?_
   show TX E K13 _
   exact tx_pick' [] (sub_cons rfl (sub_cons rfl (sub_cons rfl (sub_cons rfl (sub_cons rfl (sub_cons rfl sub_nil)))))) (by decide) pick_nil (hK13 (r37.2.2 == r30.2.2) hp)
  refine sx_skip' rfl rfl (wt_is' (wt_guard' rfl rfl rfl) (beq_ft h4)) ?_
  refine sx_skip' rfl rfl (wt_is' (wt_guard' rfl rfl rfl) (beq_ft h4)) ?_
  refine sx_skip' rfl rfl (wt_is' (wt_guard' rfl rfl rfl) (beq_ft h4)) ?_
  refine s0 (rd_pick_false' rfl h4 rfl) ?_
  refine sx_nil' ?_
  show TX E K13 _
  exact tx_pick' [] (sub_cons rfl (sub_cons rfl (sub_cons rfl (sub_cons rfl (sub_cons rfl (sub_cons rfl sub_nil)))))) (by decide) pick_nil (hK13 false hp)
 intro K7 hK7
 rcases br_cases hp with ⟨h2, hp⟩ | ⟨h2, hp⟩
 ·refine sx_skip' rfl rfl (wt_is' (wt_guard' rfl rfl rfl) (beq_tf h2)) ?_
  refine sx_skip' rfl rfl (wt_is' (wt_guard' rfl rfl rfl) (beq_tf h2)) ?_
  refine sx_skip' rfl rfl (wt_is' (wt_guard' rfl rfl rfl) (beq_tf h2)) ?_
  refine sx_skip' rfl rfl (wt_is' (wt_guard' rfl rfl rfl) (beq_tf h2)) ?_
  refine s0 (rd_pick_true' rfl h2 rfl) ?_
  refine sx_nil' ?_
  show TX E K7 _
  exact tx_pick' [] (sub_cons rfl (sub_cons rfl (sub_cons rfl sub_nil))) (by decide) pick_nil (hK7 true hp)
 refine sx_rd' (rd_move' rfl) rfl rfl (wt_is' (wt_guard' rfl rfl rfl) (beq_ff h2)) ?_
 refine sx_ox' (ox_rowlit' (K := (Kl (Kl (Kl Kf)))) (xs := [a0]) (qs := [(0, [(Sl (Kl (Kl Kf)) a0)])]) ⟨rfl, ⟨_, rfl, (lv_sl _ _)⟩, trivial⟩ Try.underlying33 info29 rfl rfl rfl rfl rfl (by kernel_rfl) rfl rfl rfl) (wt_is' (wt_guard' rfl rfl rfl) (beq_ff h2)) fun g22 => ?_
 obtain ⟨r23, hr23, hp⟩ := bind_some hp
 refine sx_ox' (ox_brw' (frz_row 0 [(22, (Vl (Vs g22)), (Sl (Kl (Kl (Kl Kf))) ([a0])))] (K := (Kl (Kl (Kl Kf)))) (xs := [a0]) (by decide) rfl ⟨⟨rfl, frz_it⟩, trivial⟩ (H' := []) frzH_refl) (ent_fn' Try.func16 isn16 rfl rfl) (laws_fCoords_sim _ hr23 : Sx.Fn Try.prog 16 [(Sl (Kl (Kl (Kl Kf))) ([a0]))] [] (fun x : Unit => (Vb r23)) (fun x => [])) pu_vl rfl rfl) (wt_is' (wt_guard' rfl rfl rfl) (beq_ff h2)) fun ⟨⟩ => ?_
 refine sx_rd' (rd_un' rfl ru_not) rfl rfl (wt_is' (wt_guard' rfl rfl rfl) (beq_ff h2)) ?_
 refine s0 (rd_pick_false' rfl h2 rfl) ?_
 refine sx_nil' ?_
 show TX E K7 _
 exact tx_pick' [] (sub_cons rfl (sub_cons rfl (sub_cons rfl sub_nil))) (by decide) pick_nil (hK7 (!r23) hp)

end Go.Proofs.Ytlipjaacncpaoaa
