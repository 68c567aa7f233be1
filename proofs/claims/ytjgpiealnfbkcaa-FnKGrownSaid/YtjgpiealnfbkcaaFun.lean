/-
  Plain functions for the Go functions that this law reaches, and that each call does what its plain function says. Printed by a program of ours.
-/
import Derived.Test.YtjgpiealnfbkcaaProg
import Derived.Test.YtjgpiealnfbkcaaSxX
import Derived.Test.YtjgpiealnfbkcaaFun1
namespace Go.Proofs.Ytjgpiealnfbkcaa
open Go.Sx
set_option linter.unusedVariables false
set_option linter.unusedSimpArgs false
set_option maxRecDepth 100000

def spec_Walk_1_j3 (k : Nat) (a4_0 : Int) (a5_0 : List Bool) (a6_0_0_0 : List ((List Nat) × Int × Int × Int × (List Nat) × (List Nat))) (a0 : Int) (recf : Int → Int → Int → Bool → Int → (List Bool) → (List ((List Nat) × Int × Int × Int × (List Nat) × (List Nat))) → Option (Bool × Int × (List Bool) × (List ((List Nat) × Int × Int × Int × (List Nat) × (List Nat))) × (List Int) × (List Int))) (a2 : Int) (a3_0 : Bool) (x3 : Bool) : Option (Bool × Int × (List Bool) × (List ((List Nat) × Int × Int × Int × (List Nat) × (List Nat))) × (List Int) × (List Int)) :=
 br x3
  (some (false, a4_0, a5_0, a6_0_0_0, [], []))
  ((idx a5_0 a0) >>= fun r37 =>
  (spec_KWalk_1 k a0 a6_0_0_0) >>= fun r41 =>
  (recf r41.2.1 a0 (iadd .i64 a2 1) a3_0 a4_0 (a5_0.set a0.toNat true) r41.1) >>= fun r49 =>
  (apd 8 r49.2.2.2.2.1 ([a0])) >>= fun r53 =>
  (apd 8 r49.2.2.2.2.2 ([a2])) >>= fun r57 =>
  (spec_Walk_1_v2 k r41.2.2 a0 (iadd .i64 a2 1) r49.1 r49.2.1 r49.2.2.1 r49.2.2.2.1 r53 r57) >>= fun r63 =>
  some (r63.1, r63.2.1, r63.2.2.1, r63.2.2.2.1, r63.2.2.2.2.1, r63.2.2.2.2.2))
def spec_Walk_1_j2 (k : Nat) (a4_0 : Int) (a5_0 : List Bool) (a6_0_0_0 : List ((List Nat) × Int × Int × Int × (List Nat) × (List Nat))) (a0 : Int) (recf : Int → Int → Int → Bool → Int → (List Bool) → (List ((List Nat) × Int × Int × Int × (List Nat) × (List Nat))) → Option (Bool × Int × (List Bool) × (List ((List Nat) × Int × Int × Int × (List Nat) × (List Nat))) × (List Int) × (List Int))) (a2 : Int) (a3_0 : Bool) (x2 : Bool) : Option (Bool × Int × (List Bool) × (List ((List Nat) × Int × Int × Int × (List Nat) × (List Nat))) × (List Int) × (List Int)) :=
 br x2
  (spec_Walk_1_j3 k a4_0 a5_0 a6_0_0_0 a0 recf a2 a3_0 true)
  ((idx a5_0 a0) >>= fun r32 =>
  spec_Walk_1_j3 k a4_0 a5_0 a6_0_0_0 a0 recf a2 a3_0 r32)
def spec_Walk_1_j1 (k : Nat) (a3_0 : Bool) (a4_0 : Int) (a5_0 : List Bool) (a6_0_0_0 : List ((List Nat) × Int × Int × Int × (List Nat) × (List Nat))) (a0 : Int) (a1 : Int) (recf : Int → Int → Int → Bool → Int → (List Bool) → (List ((List Nat) × Int × Int × Int × (List Nat) × (List Nat))) → Option (Bool × Int × (List Bool) × (List ((List Nat) × Int × Int × Int × (List Nat) × (List Nat))) × (List Int) × (List Int))) (a2 : Int) (x1 : Bool) : Option (Bool × Int × (List Bool) × (List ((List Nat) × Int × Int × Int × (List Nat) × (List Nat))) × (List Int) × (List Int)) :=
 br x1
  (some (a3_0, a4_0, a5_0, a6_0_0_0, [], []))
  (br (decide (a0 ≤ a1))
   (spec_Walk_1_j2 k a4_0 a5_0 a6_0_0_0 a0 recf a2 a3_0 true)
   (spec_Walk_1_j2 k a4_0 a5_0 a6_0_0_0 a0 recf a2 a3_0 (decide (a4_0 ≤ a0))))
def spec_Walk_1_b (recf : Int → Int → Int → Bool → Int → (List Bool) → (List ((List Nat) × Int × Int × Int × (List Nat) × (List Nat))) → Option (Bool × Int × (List Bool) × (List ((List Nat) × Int × Int × Int × (List Nat) × (List Nat))) × (List Int) × (List Int))) (k : Nat) (a0 : Int) (a1 : Int) (a2 : Int) (a3_0 : Bool) (a4_0 : Int) (a5_0 : List Bool) (a6_0_0_0 : List ((List Nat) × Int × Int × Int × (List Nat) × (List Nat))) : Option (Bool × Int × (List Bool) × (List ((List Nat) × Int × Int × Int × (List Nat) × (List Nat))) × (List Int) × (List Int)) :=
 br (decide (a0 = (-1)))
  (spec_Walk_1_j1 k a3_0 a4_0 a5_0 a6_0_0_0 a0 a1 recf a2 true)
  (spec_Walk_1_j1 k a3_0 a4_0 a5_0 a6_0_0_0 a0 a1 recf a2 (!a3_0))
def spec_Walk_1 : Nat → Int → Int → Int → Bool → Int → (List Bool) → (List ((List Nat) × Int × Int × Int × (List Nat) × (List Nat))) → Option (Bool × Int × (List Bool) × (List ((List Nat) × Int × Int × Int × (List Nat) × (List Nat))) × (List Int) × (List Int))
 | 0 => fun _ _ _ _ _ _ _ => none
 | k + 1 => fun a0 a1 a2 a3_0 a4_0 a5_0 a6_0_0_0 => spec_Walk_1_b (spec_Walk_1 k) k a0 a1 a2 a3_0 a4_0 a5_0 a6_0_0_0

theorem spec_Walk_1_b_sim {recf : Int → Int → Int → Bool → Int → (List Bool) → (List ((List Nat) × Int × Int × Int × (List Nat) × (List Nat))) → Option (Bool × Int × (List Bool) × (List ((List Nat) × Int × Int × Int × (List Nat) × (List Nat))) × (List Int) × (List Int))} (hrec : ∀ (wa3 : Addr) (wa4 : Addr) (wa5 : Addr) (wa5_0 : Gs) (wa6 : Addr) (wa6_0_0 : Addr) (wa7 : Addr) (wa7_0_5 : Addr) (wa7_0_6 : Addr) (a0 : Int) (a1 : Int) (a2 : Int) (a3_0 : Bool) (a4_0 : Int) (a5_0 : List Bool) (a6_0_0_0 : List ((List Nat) × Int × Int × Int × (List Nat) × (List Nat))) (out : Bool × Int × (List Bool) × (List ((List Nat) × Int × Int × Int × (List Nat) × (List Nat))) × (List Int) × (List Int)), recf a0 a1 a2 a3_0 a4_0 a5_0 a6_0_0_0 = some out → Sx.Fn Try.prog 65 [(Vi a0), (Vi a1), (Vi a2), (Vp wa3), (Vp wa4), (Vp wa5), (Vp wa6), (Vp wa7), (Vp wa7_0_5), (Vp wa7_0_6)] [⟨.pointer (some wa3), [(Vb a3_0)], 4, none⟩, ⟨.pointer (some wa4), [(Vi a4_0)], 3, none⟩, ⟨.pointer (some wa5), [(Vl (Vs wa5_0))], 53, none⟩, (Rw Kb 4 (Vs wa5_0) a5_0), ⟨.pointer (some wa6), [(Vl (.func (.func 36) #[] ⟨[.pointer (some wa6_0_0)]⟩))], 72, none⟩, ⟨.pointer (some wa6_0_0), [(Sl KT37 a6_0_0_0)], 26, none⟩, ⟨.pointer (some wa7), [(Vl (.func (.func 65) #[] ⟨[.pointer (some wa3), .pointer (some wa4), .pointer (some wa5), .pointer (some wa6), .pointer (some wa7), .pointer (some wa7_0_5), .pointer (some wa7_0_6)]⟩))], 128, none⟩, ⟨.pointer (some wa7_0_5), [Vn], 33, none⟩, ⟨.pointer (some wa7_0_6), [Vn], 33, none⟩] (fun w : Gs × Gs => (Vl (.tuple #[]))) (fun w => [⟨.pointer (some wa3), [(Vb out.1)], 4, none⟩, ⟨.pointer (some wa4), [(Vi out.2.1)], 3, none⟩, ⟨.pointer (some wa5), [(Vl (Vs wa5_0))], 53, none⟩, (Rw Kb 4 (Vs wa5_0) out.2.2.1), ⟨.pointer (some wa6), [(Vl (.func (.func 36) #[] ⟨[.pointer (some wa6_0_0)]⟩))], 72, none⟩, ⟨.pointer (some wa6_0_0), [(Sl KT37 out.2.2.2.1)], 26, none⟩, ⟨.pointer (some wa7), [(Vl (.func (.func 65) #[] ⟨[.pointer (some wa3), .pointer (some wa4), .pointer (some wa5), .pointer (some wa6), .pointer (some wa7), .pointer (some wa7_0_5), .pointer (some wa7_0_6)]⟩))], 128, none⟩, ⟨.pointer (some wa7_0_5), [(Vl (Vs w.1))], 33, none⟩, (Rw (Ki .i64) 3 (Vs w.1) out.2.2.2.2.1), ⟨.pointer (some wa7_0_6), [(Vl (Vs w.2))], 33, none⟩, (Rw (Ki .i64) 3 (Vs w.2) out.2.2.2.2.2)])) {k : Nat} {wa3 : Addr} {wa4 : Addr} {wa5 : Addr} {wa5_0 : Gs} {wa6 : Addr} {wa6_0_0 : Addr} {wa7 : Addr} {wa7_0_5 : Addr} {wa7_0_6 : Addr} (a0 : Int) (a1 : Int) (a2 : Int) (a3_0 : Bool) (a4_0 : Int) (a5_0 : List Bool) (a6_0_0_0 : List ((List Nat) × Int × Int × Int × (List Nat) × (List Nat))) {out : Bool × Int × (List Bool) × (List ((List Nat) × Int × Int × Int × (List Nat) × (List Nat))) × (List Int) × (List Int)} (hp : spec_Walk_1_b recf k a0 a1 a2 a3_0 a4_0 a5_0 a6_0_0_0 = some out) : Sx.Fn Try.prog 65 [(Vi a0), (Vi a1), (Vi a2), (Vp wa3), (Vp wa4), (Vp wa5), (Vp wa6), (Vp wa7), (Vp wa7_0_5), (Vp wa7_0_6)] [⟨.pointer (some wa3), [(Vb a3_0)], 4, none⟩, ⟨.pointer (some wa4), [(Vi a4_0)], 3, none⟩, ⟨.pointer (some wa5), [(Vl (Vs wa5_0))], 53, none⟩, (Rw Kb 4 (Vs wa5_0) a5_0), ⟨.pointer (some wa6), [(Vl (.func (.func 36) #[] ⟨[.pointer (some wa6_0_0)]⟩))], 72, none⟩, ⟨.pointer (some wa6_0_0), [(Sl KT37 a6_0_0_0)], 26, none⟩, ⟨.pointer (some wa7), [(Vl (.func (.func 65) #[] ⟨[.pointer (some wa3), .pointer (some wa4), .pointer (some wa5), .pointer (some wa6), .pointer (some wa7), .pointer (some wa7_0_5), .pointer (some wa7_0_6)]⟩))], 128, none⟩, ⟨.pointer (some wa7_0_5), [Vn], 33, none⟩, ⟨.pointer (some wa7_0_6), [Vn], 33, none⟩] (fun w : Gs × Gs => (Vl (.tuple #[]))) (fun w => [⟨.pointer (some wa3), [(Vb out.1)], 4, none⟩, ⟨.pointer (some wa4), [(Vi out.2.1)], 3, none⟩, ⟨.pointer (some wa5), [(Vl (Vs wa5_0))], 53, none⟩, (Rw Kb 4 (Vs wa5_0) out.2.2.1), ⟨.pointer (some wa6), [(Vl (.func (.func 36) #[] ⟨[.pointer (some wa6_0_0)]⟩))], 72, none⟩, ⟨.pointer (some wa6_0_0), [(Sl KT37 out.2.2.2.1)], 26, none⟩, ⟨.pointer (some wa7), [(Vl (.func (.func 65) #[] ⟨[.pointer (some wa3), .pointer (some wa4), .pointer (some wa5), .pointer (some wa6), .pointer (some wa7), .pointer (some wa7_0_5), .pointer (some wa7_0_6)]⟩))], 128, none⟩, ⟨.pointer (some wa7_0_5), [(Vl (Vs w.1))], 33, none⟩, (Rw (Ki .i64) 3 (Vs w.1) out.2.2.2.2.1), ⟨.pointer (some wa7_0_6), [(Vl (Vs w.2))], 33, none⟩, (Rw (Ki .i64) 3 (Vs w.2) out.2.2.2.2.2)]) := by
 unfold spec_Walk_1_b at hp
 refine fn_of Try.func65 rfl Try.ntmps65 rfl fun E hM => ?_
 refine cx_seq' fun K1 hK1 => ?_
 refine cr fun K2 hK2 => ?_
 refine s0 (rd_move' rfl) ?_
 refine s0 (rd_bin' rfl rfl eg_int ru_eql) ?_
 refine s0 (rd_move' rfl) ?_
 refine sx_cutn' 3 (fun (v1 : Bool) => (⟨64, [], [(0, (Vi a0)), (1, (Vi a1)), (2, (Vi a2)), (3, (Vp wa3)), (4, (Vp wa4)), (5, (Vp wa5)), (6, (Vp wa6)), (7, (Vp wa7)), (8, (Vp wa7_0_5)), (9, (Vp wa7_0_6)), (20, (Vb v1))], [⟨.pointer (some wa3), [(Vb a3_0)], 4, none⟩, ⟨.pointer (some wa4), [(Vi a4_0)], 3, none⟩, ⟨.pointer (some wa5), [(Vl (Vs wa5_0))], 53, none⟩, (Rw Kb 4 (Vs wa5_0) a5_0), ⟨.pointer (some wa6), [(Vl (.func (.func 36) #[] ⟨[.pointer (some wa6_0_0)]⟩))], 72, none⟩, ⟨.pointer (some wa6_0_0), [(Sl KT37 a6_0_0_0)], 26, none⟩, ⟨.pointer (some wa7), [(Vl (.func (.func 65) #[] ⟨[.pointer (some wa3), .pointer (some wa4), .pointer (some wa5), .pointer (some wa6), .pointer (some wa7), .pointer (some wa7_0_5), .pointer (some wa7_0_6)]⟩))], 128, none⟩, ⟨.pointer (some wa7_0_5), [Vn], 33, none⟩, ⟨.pointer (some wa7_0_6), [Vn], 33, none⟩]⟩ : St)) (fun (v1 : Bool) => spec_Walk_1_j1 k a3_0 a4_0 a5_0 a6_0_0_0 a0 a1 recf a2 v1 = some out) ?_ ?_
 ·rintro x1 hp
  replace hp : spec_Walk_1_j1 k a3_0 a4_0 a5_0 a6_0_0_0 a0 a1 recf a2 x1 = some out := hp
  unfold spec_Walk_1_j1 at hp
  refine nk hK2 ?_
  refine cx_cond' rfl (fun h2 => ?_) (fun h2 => ?_)
  ·replace hp := (br_t h2).symm.trans hp
   refine cx_retc' ?_
   replace hp := Option.some.inj hp
   subst hp
   refine tx_nilrow' (Ki .i64) 3 ?_
   refine tx_nilrow' (Ki .i64) 3 ?_
   refine tx_pick' (L' := []) (H' := [⟨.pointer (some wa3), [(Vb a3_0)], 4, none⟩, ⟨.pointer (some wa4), [(Vi a4_0)], 3, none⟩, ⟨.pointer (some wa5), [(Vl (Vs wa5_0))], 53, none⟩, (Rw Kb 4 (Vs wa5_0) a5_0), ⟨.pointer (some wa6), [(Vl (.func (.func 36) #[] ⟨[.pointer (some wa6_0_0)]⟩))], 72, none⟩, ⟨.pointer (some wa6_0_0), [(Sl KT37 a6_0_0_0)], 26, none⟩, ⟨.pointer (some wa7), [(Vl (.func (.func 65) #[] ⟨[.pointer (some wa3), .pointer (some wa4), .pointer (some wa5), .pointer (some wa6), .pointer (some wa7), .pointer (some wa7_0_5), .pointer (some wa7_0_6)]⟩))], 128, none⟩, ⟨.pointer (some wa7_0_5), [Vn], 33, none⟩, (Rw (Ki .i64) 3 (Vs (none, 0, 0)) []), ⟨.pointer (some wa7_0_6), [Vn], 33, none⟩, (Rw (Ki .i64) 3 (Vs (none, 0, 0)) [])]) [2, 3, 4, 5, 6, 7, 8, 9, 1, 10, 0] sub_nil (by decide) (pick_cons rfl (pick_cons rfl (pick_cons rfl (pick_cons rfl (pick_cons rfl (pick_cons rfl (pick_cons rfl (pick_cons rfl (pick_cons rfl (pick_cons rfl (pick_cons rfl pick_nil))))))))))) ?_
   exact tx_ret0' Try.results65 rfl ((none, 0, 0), (none, 0, 0)) rfl (List.Sublist.refl _)
  replace hp := (br_f h2).symm.trans hp
  refine cx_skip' ?_
  show TX E K1 _
  refine tx_k' hK1 ?_
  refine cx_seq' fun K4 hK4 => ?_
  refine cr fun K5 hK5 => ?_
  refine s0 (rd_move' rfl) ?_
  refine s0 (rd_move' rfl) ?_
  refine s0 (rd_bin' rfl rfl eg_int ru_leq) ?_
  refine s0 (rd_move' rfl) ?_
  refine sx_cutn' 4 (fun (v2 : Bool) => (⟨64, [], [(0, (Vi a0)), (2, (Vi a2)), (3, (Vp wa3)), (5, (Vp wa5)), (6, (Vp wa6)), (7, (Vp wa7)), (8, (Vp wa7_0_5)), (9, (Vp wa7_0_6)), (28, (Vb v2))], [⟨.pointer (some wa3), [(Vb a3_0)], 4, none⟩, ⟨.pointer (some wa5), [(Vl (Vs wa5_0))], 53, none⟩, (Rw Kb 4 (Vs wa5_0) a5_0), ⟨.pointer (some wa6), [(Vl (.func (.func 36) #[] ⟨[.pointer (some wa6_0_0)]⟩))], 72, none⟩, ⟨.pointer (some wa6_0_0), [(Sl KT37 a6_0_0_0)], 26, none⟩, ⟨.pointer (some wa7), [(Vl (.func (.func 65) #[] ⟨[.pointer (some wa3), .pointer (some wa4), .pointer (some wa5), .pointer (some wa6), .pointer (some wa7), .pointer (some wa7_0_5), .pointer (some wa7_0_6)]⟩))], 128, none⟩, ⟨.pointer (some wa4), [(Vi a4_0)], 3, none⟩, ⟨.pointer (some wa7_0_5), [Vn], 33, none⟩, ⟨.pointer (some wa7_0_6), [Vn], 33, none⟩]⟩ : St)) (fun (v2 : Bool) => spec_Walk_1_j2 k a4_0 a5_0 a6_0_0_0 a0 recf a2 a3_0 v2 = some out) ?_ ?_
  ·rintro x2 hp
   replace hp : spec_Walk_1_j2 k a4_0 a5_0 a6_0_0_0 a0 recf a2 a3_0 x2 = some out := hp
   unfold spec_Walk_1_j2 at hp
   refine s0 (rd_move' rfl) ?_
   refine sx_cutn' 5 (fun (v3 : Bool) => (⟨64, [], [(0, (Vi a0)), (2, (Vi a2)), (3, (Vp wa3)), (5, (Vp wa5)), (6, (Vp wa6)), (7, (Vp wa7)), (8, (Vp wa7_0_5)), (9, (Vp wa7_0_6)), (34, (Vb v3))], [⟨.pointer (some wa3), [(Vb a3_0)], 4, none⟩, ⟨.pointer (some wa5), [(Vl (Vs wa5_0))], 53, none⟩, (Rw Kb 4 (Vs wa5_0) a5_0), ⟨.pointer (some wa6), [(Vl (.func (.func 36) #[] ⟨[.pointer (some wa6_0_0)]⟩))], 72, none⟩, ⟨.pointer (some wa6_0_0), [(Sl KT37 a6_0_0_0)], 26, none⟩, ⟨.pointer (some wa7), [(Vl (.func (.func 65) #[] ⟨[.pointer (some wa3), .pointer (some wa4), .pointer (some wa5), .pointer (some wa6), .pointer (some wa7), .pointer (some wa7_0_5), .pointer (some wa7_0_6)]⟩))], 128, none⟩, ⟨.pointer (some wa4), [(Vi a4_0)], 3, none⟩, ⟨.pointer (some wa7_0_5), [Vn], 33, none⟩, ⟨.pointer (some wa7_0_6), [Vn], 33, none⟩]⟩ : St)) (fun (v3 : Bool) => spec_Walk_1_j3 k a4_0 a5_0 a6_0_0_0 a0 recf a2 a3_0 v3 = some out) ?_ ?_
   ·rintro x3 hp
    replace hp : spec_Walk_1_j3 k a4_0 a5_0 a6_0_0_0 a0 recf a2 a3_0 x3 = some out := hp
    unfold spec_Walk_1_j3 at hp
    refine nk hK5 ?_
    refine cx_cond' rfl (fun h5 => ?_) (fun h5 => ?_)
    ·replace hp := (br_t h5).symm.trans hp
     refine cr fun K8 hK8 => ?_
     refine sx_ox' (ox_store' (i := 0) (o := 0) rfl rfl (lv_vl rfl rfl) ⟨rfl, rfl, rfl, rfl⟩ rfl info4 rfl (H' := [⟨.pointer (some wa3), [(Vb false)], 4, none⟩, ⟨.pointer (some wa5), [(Vl (Vs wa5_0))], 53, none⟩, (Rw Kb 4 (Vs wa5_0) a5_0), ⟨.pointer (some wa6), [(Vl (.func (.func 36) #[] ⟨[.pointer (some wa6_0_0)]⟩))], 72, none⟩, ⟨.pointer (some wa6_0_0), [(Sl KT37 a6_0_0_0)], 26, none⟩, ⟨.pointer (some wa7), [(Vl (.func (.func 65) #[] ⟨[.pointer (some wa3), .pointer (some wa4), .pointer (some wa5), .pointer (some wa6), .pointer (some wa7), .pointer (some wa7_0_5), .pointer (some wa7_0_6)]⟩))], 128, none⟩, ⟨.pointer (some wa4), [(Vi a4_0)], 3, none⟩, ⟨.pointer (some wa7_0_5), [Vn], 33, none⟩, ⟨.pointer (some wa7_0_6), [Vn], 33, none⟩]) rfl) (wt_none' rfl) fun _ => ?_
     refine nk hK8 ?_
     refine cx_retc' ?_
     replace hp := Option.some.inj hp
     subst hp
     refine tx_nilrow' (Ki .i64) 3 ?_
     refine tx_nilrow' (Ki .i64) 3 ?_
     refine tx_pick' (L' := []) (H' := [⟨.pointer (some wa3), [(Vb false)], 4, none⟩, ⟨.pointer (some wa4), [(Vi a4_0)], 3, none⟩, ⟨.pointer (some wa5), [(Vl (Vs wa5_0))], 53, none⟩, (Rw Kb 4 (Vs wa5_0) a5_0), ⟨.pointer (some wa6), [(Vl (.func (.func 36) #[] ⟨[.pointer (some wa6_0_0)]⟩))], 72, none⟩, ⟨.pointer (some wa6_0_0), [(Sl KT37 a6_0_0_0)], 26, none⟩, ⟨.pointer (some wa7), [(Vl (.func (.func 65) #[] ⟨[.pointer (some wa3), .pointer (some wa4), .pointer (some wa5), .pointer (some wa6), .pointer (some wa7), .pointer (some wa7_0_5), .pointer (some wa7_0_6)]⟩))], 128, none⟩, ⟨.pointer (some wa7_0_5), [Vn], 33, none⟩, (Rw (Ki .i64) 3 (Vs (none, 0, 0)) []), ⟨.pointer (some wa7_0_6), [Vn], 33, none⟩, (Rw (Ki .i64) 3 (Vs (none, 0, 0)) [])]) [2, 8, 3, 4, 5, 6, 7, 9, 1, 10, 0] sub_nil (by decide) (pick_cons rfl (pick_cons rfl (pick_cons rfl (pick_cons rfl (pick_cons rfl (pick_cons rfl (pick_cons rfl (pick_cons rfl (pick_cons rfl (pick_cons rfl (pick_cons rfl pick_nil))))))))))) ?_
     exact tx_ret0' Try.results65 rfl ((none, 0, 0), (none, 0, 0)) rfl (List.Sublist.refl _)
    replace hp := (br_f h5).symm.trans hp
    refine cx_skip' ?_
    show TX E K4 _
    refine tx_k' hK4 ?_
    refine cr fun K9 hK9 => ?_
    refine s0 (rd_load' (i := 1) (o := 0) rfl ⟨rfl, rfl, rfl, rfl⟩ rfl flat53) ?_
    refine s0 (rd_move' rfl) ?_
    obtain ⟨r37, hr37, hp⟩ := bind_some hp
    refine s0 (rd_atr' (m := 2) rfl rfl rfl rfl hr37 Try.underlying53 info4) ?_
    refine sx_ox' (ox_storer' (m := 2) (i := a0) (j := 0) (x' := true) rfl rfl (lv_vl rfl rfl) rfl rfl hr37 rfl rfl rfl info4 rfl (H' := [⟨.pointer (some wa3), [(Vb a3_0)], 4, none⟩, ⟨.pointer (some wa5), [(Vl (Vs wa5_0))], 53, none⟩, (Rw Kb 4 (Vs wa5_0) (a5_0.set a0.toNat true)), ⟨.pointer (some wa6), [(Vl (.func (.func 36) #[] ⟨[.pointer (some wa6_0_0)]⟩))], 72, none⟩, ⟨.pointer (some wa6_0_0), [(Sl KT37 a6_0_0_0)], 26, none⟩, ⟨.pointer (some wa7), [(Vl (.func (.func 65) #[] ⟨[.pointer (some wa3), .pointer (some wa4), .pointer (some wa5), .pointer (some wa6), .pointer (some wa7), .pointer (some wa7_0_5), .pointer (some wa7_0_6)]⟩))], 128, none⟩, ⟨.pointer (some wa4), [(Vi a4_0)], 3, none⟩, ⟨.pointer (some wa7_0_5), [Vn], 33, none⟩, ⟨.pointer (some wa7_0_6), [Vn], 33, none⟩]) rfl) (wt_none' rfl) fun _ => ?_
    refine nk hK9 ?_
    refine cr fun K10 hK10 => ?_
    refine s0 (rd_load' (i := 3) (o := 0) rfl ⟨rfl, rfl, rfl, rfl⟩ rfl flat72) ?_
    refine s0 (rd_move' rfl) ?_
    obtain ⟨r41, hr41, hp⟩ := bind_some hp
    refine sx_ox' (ox_callg' (ent_clo' (us := [.pointer (some wa6_0_0)]) rfl Try.func36 isn36 rfl rfl) (spec_KWalk_1_sim _ _ hr41 : Sx.Fn Try.prog 36 [(Vi a0), (Vp wa6_0_0)] [⟨.pointer (some wa6_0_0), [(Sl KT37 a6_0_0_0)], 26, none⟩] (fun x : Unit => (Tu [(Vi r41.2.1), (Vi r41.2.2)])) (fun x => [⟨.pointer (some wa6_0_0), [(Sl KT37 r41.1)], 26, none⟩])) [4] [0, 1, 2, 3, 5, 6, 7, 8] (by decide) (pick_cons rfl pick_nil) (pick_cons rfl (pick_cons rfl (pick_cons rfl (pick_cons rfl (pick_cons rfl (pick_cons rfl (pick_cons rfl (pick_cons rfl pick_nil)))))))) (Hn := fun x : Unit => [⟨.pointer (some wa6_0_0), [(Sl KT37 r41.1)], 26, none⟩, ⟨.pointer (some wa3), [(Vb a3_0)], 4, none⟩, ⟨.pointer (some wa5), [(Vl (Vs wa5_0))], 53, none⟩, (Rw Kb 4 (Vs wa5_0) (a5_0.set a0.toNat true)), ⟨.pointer (some wa6), [(Vl (.func (.func 36) #[] ⟨[.pointer (some wa6_0_0)]⟩))], 72, none⟩, ⟨.pointer (some wa7), [(Vl (.func (.func 65) #[] ⟨[.pointer (some wa3), .pointer (some wa4), .pointer (some wa5), .pointer (some wa6), .pointer (some wa7), .pointer (some wa7_0_5), .pointer (some wa7_0_6)]⟩))], 128, none⟩, ⟨.pointer (some wa4), [(Vi a4_0)], 3, none⟩, ⟨.pointer (some wa7_0_5), [Vn], 33, none⟩, ⟨.pointer (some wa7_0_6), [Vn], 33, none⟩]) (fun _ => rfl) rfl rfl) (wt_none' rfl) fun ⟨⟩ => ?_
    refine s0 (rd_move' rfl) ?_
    refine s0 (rd_extract' rfl rfl) ?_
    refine s0 (rd_extract' rfl rfl) ?_
    refine s0 (rd_assign' rfl) ?_
    refine s0 (rd_assign' rfl) ?_
    refine nk hK10 ?_
    refine cr fun K11 hK11 => ?_
    refine s0 (rd_load' (i := 5) (o := 0) rfl ⟨rfl, rfl, rfl, rfl⟩ rfl flat128) ?_
    refine s0 (rd_move' rfl) ?_
    refine s0 (rd_move' rfl) ?_
    refine s0 (rd_move' rfl) ?_
    refine s0 (rd_bin' rfl rfl eg_int ru_add) ?_
    obtain ⟨r49, hr49, hp⟩ := bind_some hp
    refine sx_ox' (ox_callg' (ent_clo' (us := [.pointer (some wa3), .pointer (some wa4), .pointer (some wa5), .pointer (some wa6), .pointer (some wa7), .pointer (some wa7_0_5), .pointer (some wa7_0_6)]) rfl Try.func65 isn65 rfl rfl) (hrec _ _ _ _ _ _ _ _ _ _ _ _ _ _ _ _ _ hr49 : Sx.Fn Try.prog 65 [(Vi r41.2.1), (Vi a0), (Vi (iadd .i64 a2 1)), (Vp wa3), (Vp wa4), (Vp wa5), (Vp wa6), (Vp wa7), (Vp wa7_0_5), (Vp wa7_0_6)] [⟨.pointer (some wa3), [(Vb a3_0)], 4, none⟩, ⟨.pointer (some wa4), [(Vi a4_0)], 3, none⟩, ⟨.pointer (some wa5), [(Vl (Vs wa5_0))], 53, none⟩, (Rw Kb 4 (Vs wa5_0) (a5_0.set a0.toNat true)), ⟨.pointer (some wa6), [(Vl (.func (.func 36) #[] ⟨[.pointer (some wa6_0_0)]⟩))], 72, none⟩, ⟨.pointer (some wa6_0_0), [(Sl KT37 r41.1)], 26, none⟩, ⟨.pointer (some wa7), [(Vl (.func (.func 65) #[] ⟨[.pointer (some wa3), .pointer (some wa4), .pointer (some wa5), .pointer (some wa6), .pointer (some wa7), .pointer (some wa7_0_5), .pointer (some wa7_0_6)]⟩))], 128, none⟩, ⟨.pointer (some wa7_0_5), [Vn], 33, none⟩, ⟨.pointer (some wa7_0_6), [Vn], 33, none⟩] (fun x : Gs × Gs => (Vl (.tuple #[]))) (fun x => [⟨.pointer (some wa3), [(Vb r49.1)], 4, none⟩, ⟨.pointer (some wa4), [(Vi r49.2.1)], 3, none⟩, ⟨.pointer (some wa5), [(Vl (Vs wa5_0))], 53, none⟩, (Rw Kb 4 (Vs wa5_0) r49.2.2.1), ⟨.pointer (some wa6), [(Vl (.func (.func 36) #[] ⟨[.pointer (some wa6_0_0)]⟩))], 72, none⟩, ⟨.pointer (some wa6_0_0), [(Sl KT37 r49.2.2.2.1)], 26, none⟩, ⟨.pointer (some wa7), [(Vl (.func (.func 65) #[] ⟨[.pointer (some wa3), .pointer (some wa4), .pointer (some wa5), .pointer (some wa6), .pointer (some wa7), .pointer (some wa7_0_5), .pointer (some wa7_0_6)]⟩))], 128, none⟩, ⟨.pointer (some wa7_0_5), [(Vl (Vs x.1))], 33, none⟩, (Rw (Ki .i64) 3 (Vs x.1) r49.2.2.2.2.1), ⟨.pointer (some wa7_0_6), [(Vl (Vs x.2))], 33, none⟩, (Rw (Ki .i64) 3 (Vs x.2) r49.2.2.2.2.2)])) [1, 6, 2, 3, 4, 0, 5, 7, 8] [] (by decide) (pick_cons rfl (pick_cons rfl (pick_cons rfl (pick_cons rfl (pick_cons rfl (pick_cons rfl (pick_cons rfl (pick_cons rfl (pick_cons rfl pick_nil))))))))) pick_nil (Hn := fun x : Gs × Gs => [⟨.pointer (some wa3), [(Vb r49.1)], 4, none⟩, ⟨.pointer (some wa4), [(Vi r49.2.1)], 3, none⟩, ⟨.pointer (some wa5), [(Vl (Vs wa5_0))], 53, none⟩, (Rw Kb 4 (Vs wa5_0) r49.2.2.1), ⟨.pointer (some wa6), [(Vl (.func (.func 36) #[] ⟨[.pointer (some wa6_0_0)]⟩))], 72, none⟩, ⟨.pointer (some wa6_0_0), [(Sl KT37 r49.2.2.2.1)], 26, none⟩, ⟨.pointer (some wa7), [(Vl (.func (.func 65) #[] ⟨[.pointer (some wa3), .pointer (some wa4), .pointer (some wa5), .pointer (some wa6), .pointer (some wa7), .pointer (some wa7_0_5), .pointer (some wa7_0_6)]⟩))], 128, none⟩, ⟨.pointer (some wa7_0_5), [(Vl (Vs x.1))], 33, none⟩, (Rw (Ki .i64) 3 (Vs x.1) r49.2.2.2.2.1), ⟨.pointer (some wa7_0_6), [(Vl (Vs x.2))], 33, none⟩, (Rw (Ki .i64) 3 (Vs x.2) r49.2.2.2.2.2)]) (fun _ => rfl) rfl rfl) (wt_none' rfl) fun ⟨g49, gz2⟩ => ?_
    refine nk hK11 ?_
    refine cx_seq' fun K12 hK12 => ?_
    refine cx_plana' [wa7_0_6.block] [(3, 1), (7, 1), (8, 1), (9, 2)] [(0, 1), (1, 1), (4, 2), (5, 2)] 6 #[true, true, false, false, true, true, false, false, false, false] mixed (by kernel_rfl) ?_
    refine px_rd' rfl (rd_load' (i := 7) (o := 0) rfl ⟨rfl, rfl, rfl, rfl⟩ rfl flat33) rfl rfl (wt_none' rfl) ?_
    refine px_rd' rfl (rd_move' rfl) rfl rfl (wt_none' rfl) ?_
    refine px_rb' rfl (rb_load' (i := 9) (o := 0) rfl ⟨rfl, rfl, rfl, rfl⟩ rfl flat33 (by simp)) rfl rfl (wt_none' rfl) ?_
    refine px_rb' rfl (rb_move' rfl) rfl rfl (wt_none' rfl) ?_
    refine px_nil' ?_
    show AX E _ _ _ _ _ _ _ _
    obtain ⟨r53, hr53, hp⟩ := bind_some hp
    obtain ⟨r57, hr57, hp⟩ := bind_some hp
    refine ax_node (f' := 0) #[true, true, true, true, true, true, true, true, true, true] (fun (v12 : Gs × Gs) => (⟨64, [], [(0, (Vi a0)), (2, (Vi a2)), (7, (Vp wa7)), (9, (Vp wa7_0_6)), (14, (Vi r41.2.2))], [⟨.pointer (some wa7), [(Vl (.func (.func 65) #[] ⟨[.pointer (some wa3), .pointer (some wa4), .pointer (some wa5), .pointer (some wa6), .pointer (some wa7), .pointer (some wa7_0_5), .pointer (some wa7_0_6)]⟩))], 128, none⟩, ⟨.pointer (some wa3), [(Vb r49.1)], 4, none⟩, ⟨.pointer (some wa4), [(Vi r49.2.1)], 3, none⟩, ⟨.pointer (some wa5), [(Vl (Vs wa5_0))], 53, none⟩, (Rw Kb 4 (Vs wa5_0) r49.2.2.1), ⟨.pointer (some wa6), [(Vl (.func (.func 36) #[] ⟨[.pointer (some wa6_0_0)]⟩))], 72, none⟩, ⟨.pointer (some wa6_0_0), [(Sl KT37 r49.2.2.2.1)], 26, none⟩, ⟨.pointer (some wa7_0_5), [(Vl (Vs v12.1))], 33, none⟩, (Rw (Ki .i64) 3 (Vs v12.1) r53), ⟨.pointer (some wa7_0_6), [(Vl (Vs v12.2))], 33, none⟩, (Rw (Ki .i64) 3 (Vs v12.2) r57)]⟩ : St)) ?_ ?_
    ·rintro ⟨g9012, g9013⟩
     refine ax_nil (by kernel_rfl) ?_
     show TX E K12 _
     refine tx_k' hK12 ?_
     refine cx_region' ?_
     refine s0 (rd_load' (i := 0) (o := 0) rfl ⟨rfl, rfl, rfl, rfl⟩ rfl flat128) ?_
     refine s0 (rd_move' rfl) ?_
     refine s0 (rd_move' rfl) ?_
     refine s0 (rd_move' rfl) ?_
     refine s0 (rd_bin' rfl rfl eg_int ru_add) ?_
     obtain ⟨r63, hr63, hp⟩ := bind_some hp
     refine sx_ox' (ox_callg' (ent_clo' (us := [.pointer (some wa3), .pointer (some wa4), .pointer (some wa5), .pointer (some wa6), .pointer (some wa7), .pointer (some wa7_0_5), .pointer (some wa7_0_6)]) rfl Try.func65 isn65 rfl rfl) (spec_Walk_1_v2_sim _ _ _ _ _ _ _ _ _ hr63 : Sx.Fn Try.prog 65 [(Vi r41.2.2), (Vi a0), (Vi (iadd .i64 a2 1)), (Vp wa3), (Vp wa4), (Vp wa5), (Vp wa6), (Vp wa7), (Vp wa7_0_5), (Vp wa7_0_6)] [⟨.pointer (some wa3), [(Vb r49.1)], 4, none⟩, ⟨.pointer (some wa4), [(Vi r49.2.1)], 3, none⟩, ⟨.pointer (some wa5), [(Vl (Vs wa5_0))], 53, none⟩, (Rw Kb 4 (Vs wa5_0) r49.2.2.1), ⟨.pointer (some wa6), [(Vl (.func (.func 36) #[] ⟨[.pointer (some wa6_0_0)]⟩))], 72, none⟩, ⟨.pointer (some wa6_0_0), [(Sl KT37 r49.2.2.2.1)], 26, none⟩, ⟨.pointer (some wa7), [(Vl (.func (.func 65) #[] ⟨[.pointer (some wa3), .pointer (some wa4), .pointer (some wa5), .pointer (some wa6), .pointer (some wa7), .pointer (some wa7_0_5), .pointer (some wa7_0_6)]⟩))], 128, none⟩, ⟨.pointer (some wa7_0_5), [(Vl (Vs g9012))], 33, none⟩, (Rw (Ki .i64) 3 (Vs g9012) r53), ⟨.pointer (some wa7_0_6), [(Vl (Vs g9013))], 33, none⟩, (Rw (Ki .i64) 3 (Vs g9013) r57)] (fun x : Gs × Gs => (Vl (.tuple #[]))) (fun x => [⟨.pointer (some wa3), [(Vb r63.1)], 4, none⟩, ⟨.pointer (some wa4), [(Vi r63.2.1)], 3, none⟩, ⟨.pointer (some wa5), [(Vl (Vs wa5_0))], 53, none⟩, (Rw Kb 4 (Vs wa5_0) r63.2.2.1), ⟨.pointer (some wa6), [(Vl (.func (.func 36) #[] ⟨[.pointer (some wa6_0_0)]⟩))], 72, none⟩, ⟨.pointer (some wa6_0_0), [(Sl KT37 r63.2.2.2.1)], 26, none⟩, ⟨.pointer (some wa7), [(Vl (.func (.func 65) #[] ⟨[.pointer (some wa3), .pointer (some wa4), .pointer (some wa5), .pointer (some wa6), .pointer (some wa7), .pointer (some wa7_0_5), .pointer (some wa7_0_6)]⟩))], 128, none⟩, ⟨.pointer (some wa7_0_5), [(Vl (Vs x.1))], 33, none⟩, (Rw (Ki .i64) 3 (Vs x.1) r63.2.2.2.2.1), ⟨.pointer (some wa7_0_6), [(Vl (Vs x.2))], 33, none⟩, (Rw (Ki .i64) 3 (Vs x.2) r63.2.2.2.2.2)])) [1, 2, 3, 4, 5, 6, 0, 7, 8, 9, 10] [] (by decide) (pick_cons rfl (pick_cons rfl (pick_cons rfl (pick_cons rfl (pick_cons rfl (pick_cons rfl (pick_cons rfl (pick_cons rfl (pick_cons rfl (pick_cons rfl (pick_cons rfl pick_nil))))))))))) pick_nil (Hn := fun x : Gs × Gs => [⟨.pointer (some wa3), [(Vb r63.1)], 4, none⟩, ⟨.pointer (some wa4), [(Vi r63.2.1)], 3, none⟩, ⟨.pointer (some wa5), [(Vl (Vs wa5_0))], 53, none⟩, (Rw Kb 4 (Vs wa5_0) r63.2.2.1), ⟨.pointer (some wa6), [(Vl (.func (.func 36) #[] ⟨[.pointer (some wa6_0_0)]⟩))], 72, none⟩, ⟨.pointer (some wa6_0_0), [(Sl KT37 r63.2.2.2.1)], 26, none⟩, ⟨.pointer (some wa7), [(Vl (.func (.func 65) #[] ⟨[.pointer (some wa3), .pointer (some wa4), .pointer (some wa5), .pointer (some wa6), .pointer (some wa7), .pointer (some wa7_0_5), .pointer (some wa7_0_6)]⟩))], 128, none⟩, ⟨.pointer (some wa7_0_5), [(Vl (Vs x.1))], 33, none⟩, (Rw (Ki .i64) 3 (Vs x.1) r63.2.2.2.2.1), ⟨.pointer (some wa7_0_6), [(Vl (Vs x.2))], 33, none⟩, (Rw (Ki .i64) 3 (Vs x.2) r63.2.2.2.2.2)]) (fun _ => rfl) rfl rfl) (wt_none' rfl) fun ⟨g63, gz1⟩ => ?_
     refine sx_nil' ?_
     replace hp := Option.some.inj hp
     subst hp
     refine tx_pick' (L' := []) (H' := [⟨.pointer (some wa3), [(Vb r63.1)], 4, none⟩, ⟨.pointer (some wa4), [(Vi r63.2.1)], 3, none⟩, ⟨.pointer (some wa5), [(Vl (Vs wa5_0))], 53, none⟩, (Rw Kb 4 (Vs wa5_0) r63.2.2.1), ⟨.pointer (some wa6), [(Vl (.func (.func 36) #[] ⟨[.pointer (some wa6_0_0)]⟩))], 72, none⟩, ⟨.pointer (some wa6_0_0), [(Sl KT37 r63.2.2.2.1)], 26, none⟩, ⟨.pointer (some wa7), [(Vl (.func (.func 65) #[] ⟨[.pointer (some wa3), .pointer (some wa4), .pointer (some wa5), .pointer (some wa6), .pointer (some wa7), .pointer (some wa7_0_5), .pointer (some wa7_0_6)]⟩))], 128, none⟩, ⟨.pointer (some wa7_0_5), [(Vl (Vs g63))], 33, none⟩, (Rw (Ki .i64) 3 (Vs g63) r63.2.2.2.2.1), ⟨.pointer (some wa7_0_6), [(Vl (Vs gz1))], 33, none⟩, (Rw (Ki .i64) 3 (Vs gz1) r63.2.2.2.2.2)]) [0, 1, 2, 3, 4, 5, 6, 7, 8, 9, 10] sub_nil (by decide) (pick_cons rfl (pick_cons rfl (pick_cons rfl (pick_cons rfl (pick_cons rfl (pick_cons rfl (pick_cons rfl (pick_cons rfl (pick_cons rfl (pick_cons rfl (pick_cons rfl pick_nil))))))))))) ?_
     exact tx_end0' Try.results65 rfl (g63, gz1) rfl (List.Sublist.refl _)
    intro hN9
    refine ax_node (f' := 1) #[true, true, true, true, true, true, true, true, true, false] (fun (v11 : Gs × Gs) => (⟨64, [], [(57, (Vl (Vs v11.1))), (0, (Vi a0)), (2, (Vi a2)), (7, (Vp wa7)), (9, (Vp wa7_0_6)), (14, (Vi r41.2.2))], [(Rw (Ki .i64) 3 (Vs v11.1) r57), ⟨.pointer (some wa7), [(Vl (.func (.func 65) #[] ⟨[.pointer (some wa3), .pointer (some wa4), .pointer (some wa5), .pointer (some wa6), .pointer (some wa7), .pointer (some wa7_0_5), .pointer (some wa7_0_6)]⟩))], 128, none⟩, ⟨.pointer (some wa3), [(Vb r49.1)], 4, none⟩, ⟨.pointer (some wa4), [(Vi r49.2.1)], 3, none⟩, ⟨.pointer (some wa5), [(Vl (Vs wa5_0))], 53, none⟩, (Rw Kb 4 (Vs wa5_0) r49.2.2.1), ⟨.pointer (some wa6), [(Vl (.func (.func 36) #[] ⟨[.pointer (some wa6_0_0)]⟩))], 72, none⟩, ⟨.pointer (some wa6_0_0), [(Sl KT37 r49.2.2.2.1)], 26, none⟩, ⟨.pointer (some wa7_0_5), [(Vl (Vs v11.2))], 33, none⟩, (Rw (Ki .i64) 3 (Vs v11.2) r53), ⟨.pointer (some wa7_0_6), [(Vl (Vs gz2))], 33, none⟩]⟩ : St)) ?_ ?_
    ·rintro ⟨g9010, g9011⟩
     refine ax_all (i := 9) (is := []) (by kernel_rfl) (all_cons ?_ all_nil)
     ·refine nx_ox (last := #[true, true, true, true, true, true, true, true, true, true]) rfl (ox_store' (i := 10) (o := 0) rfl rfl (lv_vl rfl rfl) ⟨rfl, rfl, rfl, rfl⟩ rfl info33 rfl (H' := [(Rw (Ki .i64) 3 (Vs g9010) r57), ⟨.pointer (some wa7), [(Vl (.func (.func 65) #[] ⟨[.pointer (some wa3), .pointer (some wa4), .pointer (some wa5), .pointer (some wa6), .pointer (some wa7), .pointer (some wa7_0_5), .pointer (some wa7_0_6)]⟩))], 128, none⟩, ⟨.pointer (some wa3), [(Vb r49.1)], 4, none⟩, ⟨.pointer (some wa4), [(Vi r49.2.1)], 3, none⟩, ⟨.pointer (some wa5), [(Vl (Vs wa5_0))], 53, none⟩, (Rw Kb 4 (Vs wa5_0) r49.2.2.1), ⟨.pointer (some wa6), [(Vl (.func (.func 36) #[] ⟨[.pointer (some wa6_0_0)]⟩))], 72, none⟩, ⟨.pointer (some wa6_0_0), [(Sl KT37 r49.2.2.2.1)], 26, none⟩, ⟨.pointer (some wa7_0_5), [(Vl (Vs g9011))], 33, none⟩, (Rw (Ki .i64) 3 (Vs g9011) r53), ⟨.pointer (some wa7_0_6), [(Vl (Vs g9010))], 33, none⟩]) rfl) rfl (bs_cons (m := 10) rfl rfl rfl bs_nil) (wt_none' rfl) rfl fun _ => ?_
      exact tx_pick' [1, 2, 3, 4, 5, 6, 7, 8, 9, 10, 0] (sub_cons rfl (sub_cons rfl (sub_cons rfl (sub_cons rfl (sub_cons rfl sub_nil))))) (by decide) (pick_cons rfl (pick_cons rfl (pick_cons rfl (pick_cons rfl (pick_cons rfl (pick_cons rfl (pick_cons rfl (pick_cons rfl (pick_cons rfl (pick_cons rfl (pick_cons rfl pick_nil))))))))))) (hN9 (g9011, g9010))
    intro hN8
    refine ax_node (f' := 2) #[true, true, true, true, true, true, true, true, false, false] (fun (v10 : Gs × Gs) => (⟨64, [], [(8, (Vp wa7_0_5)), (53, (Vl (Vs v10.1))), (57, (Vl (Vs v10.2))), (0, (Vi a0)), (2, (Vi a2)), (7, (Vp wa7)), (9, (Vp wa7_0_6)), (14, (Vi r41.2.2))], [⟨.pointer (some wa7_0_5), [(Vl (Vs g49))], 33, none⟩, (Rw (Ki .i64) 3 (Vs v10.1) r53), (Rw (Ki .i64) 3 (Vs v10.2) r57), ⟨.pointer (some wa7), [(Vl (.func (.func 65) #[] ⟨[.pointer (some wa3), .pointer (some wa4), .pointer (some wa5), .pointer (some wa6), .pointer (some wa7), .pointer (some wa7_0_5), .pointer (some wa7_0_6)]⟩))], 128, none⟩, ⟨.pointer (some wa3), [(Vb r49.1)], 4, none⟩, ⟨.pointer (some wa4), [(Vi r49.2.1)], 3, none⟩, ⟨.pointer (some wa5), [(Vl (Vs wa5_0))], 53, none⟩, (Rw Kb 4 (Vs wa5_0) r49.2.2.1), ⟨.pointer (some wa6), [(Vl (.func (.func 36) #[] ⟨[.pointer (some wa6_0_0)]⟩))], 72, none⟩, ⟨.pointer (some wa6_0_0), [(Sl KT37 r49.2.2.2.1)], 26, none⟩, ⟨.pointer (some wa7_0_6), [(Vl (Vs gz2))], 33, none⟩]⟩ : St)) ?_ ?_
    ·rintro ⟨g908, g909⟩
     refine ax_all (i := 8) (is := []) (by kernel_rfl) (all_cons ?_ all_nil)
     ·refine nx_oxv (last := #[true, true, true, true, true, true, true, true, true, false]) rfl (oxv_store (i := 0) (o := 0) rfl rfl (lv_vl rfl rfl) ⟨rfl, rfl, rfl, rfl⟩ rfl info33 rfl (H' := [⟨.pointer (some wa7_0_5), [(Vl (Vs g908))], 33, none⟩, (Rw (Ki .i64) 3 (Vs g908) r53), (Rw (Ki .i64) 3 (Vs g909) r57), ⟨.pointer (some wa7), [(Vl (.func (.func 65) #[] ⟨[.pointer (some wa3), .pointer (some wa4), .pointer (some wa5), .pointer (some wa6), .pointer (some wa7), .pointer (some wa7_0_5), .pointer (some wa7_0_6)]⟩))], 128, none⟩, ⟨.pointer (some wa3), [(Vb r49.1)], 4, none⟩, ⟨.pointer (some wa4), [(Vi r49.2.1)], 3, none⟩, ⟨.pointer (some wa5), [(Vl (Vs wa5_0))], 53, none⟩, (Rw Kb 4 (Vs wa5_0) r49.2.2.1), ⟨.pointer (some wa6), [(Vl (.func (.func 36) #[] ⟨[.pointer (some wa6_0_0)]⟩))], 72, none⟩, ⟨.pointer (some wa6_0_0), [(Sl KT37 r49.2.2.2.1)], 26, none⟩, ⟨.pointer (some wa7_0_6), [(Vl (Vs gz2))], 33, none⟩]) rfl) rfl rfl (bo_cons (m := 10) (by decide) rfl rfl bo_nil) (wt_none' rfl) rfl fun _ => ?_
      exact tx_pick' [2, 3, 4, 5, 6, 7, 8, 9, 0, 1, 10] (sub_cons rfl (sub_cons rfl (sub_cons rfl (sub_cons rfl (sub_cons rfl (sub_cons rfl sub_nil)))))) (by decide) (pick_cons rfl (pick_cons rfl (pick_cons rfl (pick_cons rfl (pick_cons rfl (pick_cons rfl (pick_cons rfl (pick_cons rfl (pick_cons rfl (pick_cons rfl (pick_cons rfl pick_nil))))))))))) (hN8 (g909, g908))
    intro hN7
    refine ax_node (f' := 3) #[true, true, true, true, true, true, true, false, false, false] (fun (v9 : Gs × Gs) => (⟨64, [], [(8, (Vp wa7_0_5)), (53, (Vl (Vs v9.1))), (54, (Vl (Vs gz2))), (56, (Vl (Vs v9.2))), (0, (Vi a0)), (2, (Vi a2)), (7, (Vp wa7)), (9, (Vp wa7_0_6)), (14, (Vi r41.2.2))], [⟨.pointer (some wa7_0_5), [(Vl (Vs g49))], 33, none⟩, (Rw (Ki .i64) 3 (Vs v9.1) r53), (Rw (Ki .i64) 3 (Vs gz2) r49.2.2.2.2.2), (Rw (Ki .i64) 3 (Vs v9.2) ([a2])), ⟨.pointer (some wa7), [(Vl (.func (.func 65) #[] ⟨[.pointer (some wa3), .pointer (some wa4), .pointer (some wa5), .pointer (some wa6), .pointer (some wa7), .pointer (some wa7_0_5), .pointer (some wa7_0_6)]⟩))], 128, none⟩, ⟨.pointer (some wa3), [(Vb r49.1)], 4, none⟩, ⟨.pointer (some wa4), [(Vi r49.2.1)], 3, none⟩, ⟨.pointer (some wa5), [(Vl (Vs wa5_0))], 53, none⟩, (Rw Kb 4 (Vs wa5_0) r49.2.2.1), ⟨.pointer (some wa6), [(Vl (.func (.func 36) #[] ⟨[.pointer (some wa6_0_0)]⟩))], 72, none⟩, ⟨.pointer (some wa6_0_0), [(Sl KT37 r49.2.2.2.1)], 26, none⟩, ⟨.pointer (some wa7_0_6), [(Vl (Vs gz2))], 33, none⟩]⟩ : St)) ?_ ?_
    ·rintro ⟨g906, g907⟩
     refine ax_all (i := 7) (is := []) (by kernel_rfl) (all_cons ?_ all_nil)
     ·refine nx_ox (last := #[true, true, true, true, true, true, true, true, false, false]) rfl (ox_append' (K := (Ki .i64)) (i := 2) (xs := r49.2.2.2.2.2) (ys := ([a2])) rfl rfl rfl (sr_row' (j := 3) rfl rfl rfl Try.underlying33) hr57 Try.underlying33 info3 rfl rfl rfl (H' := [⟨.pointer (some wa7_0_5), [(Vl (Vs g49))], 33, none⟩, (Rw (Ki .i64) 3 (Vs g906) r53), (Rw (Ki .i64) 3 (Vs g907) ([a2])), ⟨.pointer (some wa7), [(Vl (.func (.func 65) #[] ⟨[.pointer (some wa3), .pointer (some wa4), .pointer (some wa5), .pointer (some wa6), .pointer (some wa7), .pointer (some wa7_0_5), .pointer (some wa7_0_6)]⟩))], 128, none⟩, ⟨.pointer (some wa3), [(Vb r49.1)], 4, none⟩, ⟨.pointer (some wa4), [(Vi r49.2.1)], 3, none⟩, ⟨.pointer (some wa5), [(Vl (Vs wa5_0))], 53, none⟩, (Rw Kb 4 (Vs wa5_0) r49.2.2.1), ⟨.pointer (some wa6), [(Vl (.func (.func 36) #[] ⟨[.pointer (some wa6_0_0)]⟩))], 72, none⟩, ⟨.pointer (some wa6_0_0), [(Sl KT37 r49.2.2.2.1)], 26, none⟩, ⟨.pointer (some wa7_0_6), [(Vl (Vs gz2))], 33, none⟩]) rfl) rfl (bs_cons (m := 11) rfl rfl rfl bs_nil) (wt_none' rfl) rfl fun g57 => ?_
      exact tx_pick' [1, 2, 0, 4, 5, 6, 7, 8, 9, 10, 11] (sub_cons rfl (sub_cons rfl (sub_cons rfl (sub_cons rfl (sub_cons rfl (sub_cons rfl (sub_cons rfl (sub_cons rfl sub_nil)))))))) (by decide) (pick_cons rfl (pick_cons rfl (pick_cons rfl (pick_cons rfl (pick_cons rfl (pick_cons rfl (pick_cons rfl (pick_cons rfl (pick_cons rfl (pick_cons rfl (pick_cons rfl pick_nil))))))))))) (hN7 (g906, g57))
    intro hN6
    refine ax_node (f' := 4) #[true, true, true, true, true, true, false, false, false, false] (fun (v7 : Gs) => (⟨64, [], [(8, (Vp wa7_0_5)), (53, (Vl (Vs v7))), (54, (Vl (Vs gz2))), (55, (Vi a2)), (0, (Vi a0)), (2, (Vi a2)), (7, (Vp wa7)), (9, (Vp wa7_0_6)), (14, (Vi r41.2.2))], [⟨.pointer (some wa7_0_5), [(Vl (Vs g49))], 33, none⟩, (Rw (Ki .i64) 3 (Vs v7) r53), (Rw (Ki .i64) 3 (Vs gz2) r49.2.2.2.2.2), ⟨.pointer (some wa7), [(Vl (.func (.func 65) #[] ⟨[.pointer (some wa3), .pointer (some wa4), .pointer (some wa5), .pointer (some wa6), .pointer (some wa7), .pointer (some wa7_0_5), .pointer (some wa7_0_6)]⟩))], 128, none⟩, ⟨.pointer (some wa3), [(Vb r49.1)], 4, none⟩, ⟨.pointer (some wa4), [(Vi r49.2.1)], 3, none⟩, ⟨.pointer (some wa5), [(Vl (Vs wa5_0))], 53, none⟩, (Rw Kb 4 (Vs wa5_0) r49.2.2.1), ⟨.pointer (some wa6), [(Vl (.func (.func 36) #[] ⟨[.pointer (some wa6_0_0)]⟩))], 72, none⟩, ⟨.pointer (some wa6_0_0), [(Sl KT37 r49.2.2.2.1)], 26, none⟩, ⟨.pointer (some wa7_0_6), [(Vl (Vs gz2))], 33, none⟩]⟩ : St)) ?_ ?_
    ·rintro g903
     refine ax_all (i := 6) (is := []) (by kernel_rfl) (all_cons ?_ all_nil)
     ·refine nx_ox (last := #[true, true, true, true, true, true, true, false, false, false]) rfl (ox_rowlit' (K := (Ki .i64)) (xs := [a2]) (qs := [(0, [(Vi a2)])]) ⟨rfl, ⟨_, rfl, (lv_vl rfl rfl)⟩, trivial⟩ Try.underlying33 info3 rfl rfl rfl rfl rfl (by kernel_rfl) rfl rfl rfl) rfl (bs_cons (m := 10) rfl rfl rfl bs_nil) (wt_none' rfl) rfl fun g56 => ?_
      exact tx_pick' [1, 2, 3, 0, 4, 5, 6, 7, 8, 9, 10, 11] (sub_cons rfl (sub_cons rfl (sub_cons rfl (sub_cons rfl (sub_cons rfl (sub_cons rfl (sub_cons rfl (sub_cons rfl (sub_cons rfl sub_nil))))))))) (by decide) (pick_cons rfl (pick_cons rfl (pick_cons rfl (pick_cons rfl (pick_cons rfl (pick_cons rfl (pick_cons rfl (pick_cons rfl (pick_cons rfl (pick_cons rfl (pick_cons rfl (pick_cons rfl pick_nil)))))))))))) (hN6 (g903, g56))
    intro hN4
    refine ax_node (f' := 4) #[true, true, true, false, true, true, true, false, false, false] (fun (v8 : Gs × Gs) => (⟨64, [], [(8, (Vp wa7_0_5)), (50, (Vl (Vs g49))), (52, (Vl (Vs v8.1))), (54, (Vl (Vs gz2))), (56, (Vl (Vs v8.2))), (0, (Vi a0)), (2, (Vi a2)), (7, (Vp wa7)), (9, (Vp wa7_0_6)), (14, (Vi r41.2.2))], [⟨.pointer (some wa7_0_5), [(Vl (Vs g49))], 33, none⟩, (Rw (Ki .i64) 3 (Vs g49) r49.2.2.2.2.1), (Rw (Ki .i64) 3 (Vs v8.1) ([a0])), (Rw (Ki .i64) 3 (Vs gz2) r49.2.2.2.2.2), (Rw (Ki .i64) 3 (Vs v8.2) ([a2])), ⟨.pointer (some wa7), [(Vl (.func (.func 65) #[] ⟨[.pointer (some wa3), .pointer (some wa4), .pointer (some wa5), .pointer (some wa6), .pointer (some wa7), .pointer (some wa7_0_5), .pointer (some wa7_0_6)]⟩))], 128, none⟩, ⟨.pointer (some wa3), [(Vb r49.1)], 4, none⟩, ⟨.pointer (some wa4), [(Vi r49.2.1)], 3, none⟩, ⟨.pointer (some wa5), [(Vl (Vs wa5_0))], 53, none⟩, (Rw Kb 4 (Vs wa5_0) r49.2.2.1), ⟨.pointer (some wa6), [(Vl (.func (.func 36) #[] ⟨[.pointer (some wa6_0_0)]⟩))], 72, none⟩, ⟨.pointer (some wa6_0_0), [(Sl KT37 r49.2.2.2.1)], 26, none⟩, ⟨.pointer (some wa7_0_6), [(Vl (Vs gz2))], 33, none⟩]⟩ : St)) ?_ ?_
    ·rintro ⟨g904, g905⟩
     refine ax_all (i := 3) (is := []) (by kernel_rfl) (all_cons ?_ all_nil)
     ·refine nx_ox (last := #[true, true, true, true, true, true, true, false, false, false]) rfl (ox_append' (K := (Ki .i64)) (i := 1) (xs := r49.2.2.2.2.1) (ys := ([a0])) rfl rfl rfl (sr_row' (j := 2) rfl rfl rfl Try.underlying33) hr53 Try.underlying33 info3 rfl rfl rfl (H' := [⟨.pointer (some wa7_0_5), [(Vl (Vs g49))], 33, none⟩, (Rw (Ki .i64) 3 (Vs g904) ([a0])), (Rw (Ki .i64) 3 (Vs gz2) r49.2.2.2.2.2), (Rw (Ki .i64) 3 (Vs g905) ([a2])), ⟨.pointer (some wa7), [(Vl (.func (.func 65) #[] ⟨[.pointer (some wa3), .pointer (some wa4), .pointer (some wa5), .pointer (some wa6), .pointer (some wa7), .pointer (some wa7_0_5), .pointer (some wa7_0_6)]⟩))], 128, none⟩, ⟨.pointer (some wa3), [(Vb r49.1)], 4, none⟩, ⟨.pointer (some wa4), [(Vi r49.2.1)], 3, none⟩, ⟨.pointer (some wa5), [(Vl (Vs wa5_0))], 53, none⟩, (Rw Kb 4 (Vs wa5_0) r49.2.2.1), ⟨.pointer (some wa6), [(Vl (.func (.func 36) #[] ⟨[.pointer (some wa6_0_0)]⟩))], 72, none⟩, ⟨.pointer (some wa6_0_0), [(Sl KT37 r49.2.2.2.1)], 26, none⟩, ⟨.pointer (some wa7_0_6), [(Vl (Vs gz2))], 33, none⟩]) rfl) rfl (bs_cons (m := 12) rfl rfl rfl bs_nil) (wt_none' rfl) rfl fun g53 => ?_
      exact tx_pick' [1, 0, 3, 4, 5, 6, 7, 8, 9, 10, 11, 12] (sub_cons rfl (sub_cons rfl (sub_cons rfl (sub_cons rfl (sub_cons rfl (sub_cons rfl (sub_cons rfl (sub_cons rfl (sub_cons rfl sub_nil))))))))) (by decide) (pick_cons rfl (pick_cons rfl (pick_cons rfl (pick_cons rfl (pick_cons rfl (pick_cons rfl (pick_cons rfl (pick_cons rfl (pick_cons rfl (pick_cons rfl (pick_cons rfl (pick_cons rfl pick_nil)))))))))))) (hN6 (g53, g905))
    intro hN5
    refine ax_node (f' := 5) #[true, true, true, false, true, true, false, false, false, false] (fun (v5 : Gs) => (⟨64, [], [(8, (Vp wa7_0_5)), (50, (Vl (Vs g49))), (52, (Vl (Vs v5))), (54, (Vl (Vs gz2))), (55, (Vi a2)), (0, (Vi a0)), (2, (Vi a2)), (7, (Vp wa7)), (9, (Vp wa7_0_6)), (14, (Vi r41.2.2))], [⟨.pointer (some wa7_0_5), [(Vl (Vs g49))], 33, none⟩, (Rw (Ki .i64) 3 (Vs g49) r49.2.2.2.2.1), (Rw (Ki .i64) 3 (Vs v5) ([a0])), (Rw (Ki .i64) 3 (Vs gz2) r49.2.2.2.2.2), ⟨.pointer (some wa7), [(Vl (.func (.func 65) #[] ⟨[.pointer (some wa3), .pointer (some wa4), .pointer (some wa5), .pointer (some wa6), .pointer (some wa7), .pointer (some wa7_0_5), .pointer (some wa7_0_6)]⟩))], 128, none⟩, ⟨.pointer (some wa3), [(Vb r49.1)], 4, none⟩, ⟨.pointer (some wa4), [(Vi r49.2.1)], 3, none⟩, ⟨.pointer (some wa5), [(Vl (Vs wa5_0))], 53, none⟩, (Rw Kb 4 (Vs wa5_0) r49.2.2.1), ⟨.pointer (some wa6), [(Vl (.func (.func 36) #[] ⟨[.pointer (some wa6_0_0)]⟩))], 72, none⟩, ⟨.pointer (some wa6_0_0), [(Sl KT37 r49.2.2.2.1)], 26, none⟩, ⟨.pointer (some wa7_0_6), [(Vl (Vs gz2))], 33, none⟩]⟩ : St)) ?_ ?_
    ·rintro g901
     refine ax_all (i := 3) (is := [6]) (by kernel_rfl) (all_cons ?_ (all_cons ?_ all_nil))
     ·refine nx_ox (last := #[true, true, true, true, true, true, false, false, false, false]) rfl (ox_append' (K := (Ki .i64)) (i := 1) (xs := r49.2.2.2.2.1) (ys := ([a0])) rfl rfl rfl (sr_row' (j := 2) rfl rfl rfl Try.underlying33) hr53 Try.underlying33 info3 rfl rfl rfl (H' := [⟨.pointer (some wa7_0_5), [(Vl (Vs g49))], 33, none⟩, (Rw (Ki .i64) 3 (Vs g901) ([a0])), (Rw (Ki .i64) 3 (Vs gz2) r49.2.2.2.2.2), ⟨.pointer (some wa7), [(Vl (.func (.func 65) #[] ⟨[.pointer (some wa3), .pointer (some wa4), .pointer (some wa5), .pointer (some wa6), .pointer (some wa7), .pointer (some wa7_0_5), .pointer (some wa7_0_6)]⟩))], 128, none⟩, ⟨.pointer (some wa3), [(Vb r49.1)], 4, none⟩, ⟨.pointer (some wa4), [(Vi r49.2.1)], 3, none⟩, ⟨.pointer (some wa5), [(Vl (Vs wa5_0))], 53, none⟩, (Rw Kb 4 (Vs wa5_0) r49.2.2.1), ⟨.pointer (some wa6), [(Vl (.func (.func 36) #[] ⟨[.pointer (some wa6_0_0)]⟩))], 72, none⟩, ⟨.pointer (some wa6_0_0), [(Sl KT37 r49.2.2.2.1)], 26, none⟩, ⟨.pointer (some wa7_0_6), [(Vl (Vs gz2))], 33, none⟩]) rfl) rfl (bs_cons (m := 11) rfl rfl rfl bs_nil) (wt_none' rfl) rfl fun g53 => ?_
      exact tx_pick' [1, 0, 3, 4, 5, 6, 7, 8, 9, 10, 11] (sub_cons rfl (sub_cons rfl (sub_cons rfl (sub_cons rfl (sub_cons rfl (sub_cons rfl (sub_cons rfl (sub_cons rfl (sub_cons rfl sub_nil))))))))) (by decide) (pick_cons rfl (pick_cons rfl (pick_cons rfl (pick_cons rfl (pick_cons rfl (pick_cons rfl (pick_cons rfl (pick_cons rfl (pick_cons rfl (pick_cons rfl (pick_cons rfl pick_nil))))))))))) (hN4 g53)
     refine nx_ox (last := #[true, true, true, false, true, true, true, false, false, false]) rfl (ox_rowlit' (K := (Ki .i64)) (xs := [a2]) (qs := [(0, [(Vi a2)])]) ⟨rfl, ⟨_, rfl, (lv_vl rfl rfl)⟩, trivial⟩ Try.underlying33 info3 rfl rfl rfl rfl rfl (by kernel_rfl) rfl rfl rfl) rfl (bs_cons (m := 11) rfl rfl rfl bs_nil) (wt_none' rfl) rfl fun g56 => ?_
     exact tx_pick' [1, 2, 3, 4, 0, 5, 6, 7, 8, 9, 10, 11, 12] (sub_cons rfl (sub_cons rfl (sub_cons rfl (sub_cons rfl (sub_cons rfl (sub_cons rfl (sub_cons rfl (sub_cons rfl (sub_cons rfl (sub_cons rfl sub_nil)))))))))) (by decide) (pick_cons rfl (pick_cons rfl (pick_cons rfl (pick_cons rfl (pick_cons rfl (pick_cons rfl (pick_cons rfl (pick_cons rfl (pick_cons rfl (pick_cons rfl (pick_cons rfl (pick_cons rfl (pick_cons rfl pick_nil))))))))))))) (hN5 (g901, g56))
    intro hN2
    refine ax_node (f' := 5) #[true, true, false, false, true, true, true, false, false, false] (fun (v6 : Gs) => (⟨64, [], [(8, (Vp wa7_0_5)), (50, (Vl (Vs g49))), (51, (Vi a0)), (54, (Vl (Vs gz2))), (56, (Vl (Vs v6))), (0, (Vi a0)), (2, (Vi a2)), (7, (Vp wa7)), (9, (Vp wa7_0_6)), (14, (Vi r41.2.2))], [⟨.pointer (some wa7_0_5), [(Vl (Vs g49))], 33, none⟩, (Rw (Ki .i64) 3 (Vs g49) r49.2.2.2.2.1), (Rw (Ki .i64) 3 (Vs gz2) r49.2.2.2.2.2), (Rw (Ki .i64) 3 (Vs v6) ([a2])), ⟨.pointer (some wa7), [(Vl (.func (.func 65) #[] ⟨[.pointer (some wa3), .pointer (some wa4), .pointer (some wa5), .pointer (some wa6), .pointer (some wa7), .pointer (some wa7_0_5), .pointer (some wa7_0_6)]⟩))], 128, none⟩, ⟨.pointer (some wa3), [(Vb r49.1)], 4, none⟩, ⟨.pointer (some wa4), [(Vi r49.2.1)], 3, none⟩, ⟨.pointer (some wa5), [(Vl (Vs wa5_0))], 53, none⟩, (Rw Kb 4 (Vs wa5_0) r49.2.2.1), ⟨.pointer (some wa6), [(Vl (.func (.func 36) #[] ⟨[.pointer (some wa6_0_0)]⟩))], 72, none⟩, ⟨.pointer (some wa6_0_0), [(Sl KT37 r49.2.2.2.1)], 26, none⟩, ⟨.pointer (some wa7_0_6), [(Vl (Vs gz2))], 33, none⟩]⟩ : St)) ?_ ?_
    ·rintro g902
     refine ax_all (i := 2) (is := []) (by kernel_rfl) (all_cons ?_ all_nil)
     ·refine nx_ox (last := #[true, true, true, false, true, true, true, false, false, false]) rfl (ox_rowlit' (K := (Ki .i64)) (xs := [a0]) (qs := [(0, [(Vi a0)])]) ⟨rfl, ⟨_, rfl, (lv_vl rfl rfl)⟩, trivial⟩ Try.underlying33 info3 rfl rfl rfl rfl rfl (by kernel_rfl) rfl rfl rfl) rfl (bs_cons (m := 11) rfl rfl rfl bs_nil) (wt_none' rfl) rfl fun g52 => ?_
      exact tx_pick' [1, 2, 0, 3, 4, 5, 6, 7, 8, 9, 10, 11, 12] (sub_cons rfl (sub_cons rfl (sub_cons rfl (sub_cons rfl (sub_cons rfl (sub_cons rfl (sub_cons rfl (sub_cons rfl (sub_cons rfl (sub_cons rfl sub_nil)))))))))) (by decide) (pick_cons rfl (pick_cons rfl (pick_cons rfl (pick_cons rfl (pick_cons rfl (pick_cons rfl (pick_cons rfl (pick_cons rfl (pick_cons rfl (pick_cons rfl (pick_cons rfl (pick_cons rfl (pick_cons rfl pick_nil))))))))))))) (hN5 (g52, g902))
    intro hN3
    refine ax_all (i := 2) (is := [6]) (by kernel_rfl) (all_cons ?_ (all_cons ?_ all_nil))
    ·refine nx_ox (last := #[true, true, true, false, true, true, false, false, false, false]) rfl (ox_rowlit' (K := (Ki .i64)) (xs := [a0]) (qs := [(0, [(Vi a0)])]) ⟨rfl, ⟨_, rfl, (lv_vl rfl rfl)⟩, trivial⟩ Try.underlying33 info3 rfl rfl rfl rfl rfl (by kernel_rfl) rfl rfl rfl) rfl (bs_cons (m := 9) rfl rfl rfl bs_nil) (wt_none' rfl) rfl fun g52 => ?_
     exact tx_pick' [8, 9, 0, 11, 7, 1, 2, 3, 4, 5, 6, 10] (sub_cons rfl (sub_cons rfl (sub_cons rfl (sub_cons rfl (sub_cons rfl (sub_cons rfl (sub_cons rfl (sub_cons rfl (sub_cons rfl (sub_cons rfl sub_nil)))))))))) (by decide) (pick_cons rfl (pick_cons rfl (pick_cons rfl (pick_cons rfl (pick_cons rfl (pick_cons rfl (pick_cons rfl (pick_cons rfl (pick_cons rfl (pick_cons rfl (pick_cons rfl (pick_cons rfl pick_nil)))))))))))) (hN2 g52)
    refine nx_ox (last := #[true, true, false, false, true, true, true, false, false, false]) rfl (ox_rowlit' (K := (Ki .i64)) (xs := [a2]) (qs := [(0, [(Vi a2)])]) ⟨rfl, ⟨_, rfl, (lv_vl rfl rfl)⟩, trivial⟩ Try.underlying33 info3 rfl rfl rfl rfl rfl (by kernel_rfl) rfl rfl rfl) rfl (bs_cons (m := 9) rfl rfl rfl bs_nil) (wt_none' rfl) rfl fun g56 => ?_
    exact tx_pick' [8, 9, 11, 0, 7, 1, 2, 3, 4, 5, 6, 10] (sub_cons rfl (sub_cons rfl (sub_cons rfl (sub_cons rfl (sub_cons rfl (sub_cons rfl (sub_cons rfl (sub_cons rfl (sub_cons rfl (sub_cons rfl sub_nil)))))))))) (by decide) (pick_cons rfl (pick_cons rfl (pick_cons rfl (pick_cons rfl (pick_cons rfl (pick_cons rfl (pick_cons rfl (pick_cons rfl (pick_cons rfl (pick_cons rfl (pick_cons rfl (pick_cons rfl pick_nil)))))))))))) (hN3 g56)
   intro K7 hK7
   rcases br_cases hp with ⟨h4, hp⟩ | ⟨h4, hp⟩
   ·refine sx_skip' rfl rfl (wt_is' (wt_guard' rfl rfl rfl) (beq_tf h4)) ?_
    refine sx_skip' rfl rfl (wt_is' (wt_guard' rfl rfl rfl) (beq_tf h4)) ?_
    refine sx_skip' rfl rfl (wt_is' (wt_guard' rfl rfl rfl) (beq_tf h4)) ?_
    refine sx_skip' rfl rfl (wt_is' (wt_guard' rfl rfl rfl) (beq_tf h4)) ?_
    refine s0 (rd_pick_true' rfl h4 rfl) ?_
    refine sx_nil' ?_
    show TX E K7 _
    exact tx_pick' [0, 1, 2, 3, 4, 5, 6, 7, 8] (sub_cons rfl (sub_cons rfl (sub_cons rfl (sub_cons rfl (sub_cons rfl (sub_cons rfl (sub_cons rfl (sub_cons rfl (sub_cons rfl sub_nil))))))))) (by decide) (pick_cons rfl (pick_cons rfl (pick_cons rfl (pick_cons rfl (pick_cons rfl (pick_cons rfl (pick_cons rfl (pick_cons rfl (pick_cons rfl pick_nil))))))))) (hK7 true hp)
   refine sx_rd' (rd_load' (i := 1) (o := 0) rfl ⟨rfl, rfl, rfl, rfl⟩ rfl flat53) rfl rfl (wt_is' (wt_guard' rfl rfl rfl) (beq_ff h4)) ?_
   refine sx_rd' (rd_move' rfl) rfl rfl (wt_is' (wt_guard' rfl rfl rfl) (beq_ff h4)) ?_
   obtain ⟨r32, hr32, hp⟩ := bind_some hp
   refine sx_rd' (rd_atr' (m := 2) rfl rfl rfl rfl hr32 Try.underlying53 info4) rfl rfl (wt_is' (wt_guard' rfl rfl rfl) (beq_ff h4)) ?_
   refine sx_rd' (rd_loadr' rfl (m := 2) (i := a0) (j := 0) rfl rfl hr32 rfl rfl flat4) rfl rfl (wt_is' (wt_guard' rfl rfl rfl) (beq_ff h4)) ?_
   refine s0 (rd_pick_false' rfl h4 rfl) ?_
   refine sx_nil' ?_
   show TX E K7 _
   exact tx_pick' [0, 1, 2, 3, 4, 5, 6, 7, 8] (sub_cons rfl (sub_cons rfl (sub_cons rfl (sub_cons rfl (sub_cons rfl (sub_cons rfl (sub_cons rfl (sub_cons rfl (sub_cons rfl sub_nil))))))))) (by decide) (pick_cons rfl (pick_cons rfl (pick_cons rfl (pick_cons rfl (pick_cons rfl (pick_cons rfl (pick_cons rfl (pick_cons rfl (pick_cons rfl pick_nil))))))))) (hK7 r32 hp)
  intro K6 hK6
  rcases br_cases hp with ⟨h3, hp⟩ | ⟨h3, hp⟩
  ·refine sx_skip' rfl rfl (wt_is' (wt_guard' rfl rfl rfl) (beq_tf h3)) ?_
   refine sx_skip' rfl rfl (wt_is' (wt_guard' rfl rfl rfl) (beq_tf h3)) ?_
   refine sx_skip' rfl rfl (wt_is' (wt_guard' rfl rfl rfl) (beq_tf h3)) ?_
   refine s0 (rd_pick_true' rfl h3 rfl) ?_
   refine sx_nil' ?_
   show TX E K6 _
   exact tx_pick' [0, 2, 3, 4, 5, 6, 1, 7, 8] (sub_cons rfl (sub_cons rfl (sub_cons rfl (sub_cons rfl (sub_cons rfl (sub_cons rfl (sub_cons rfl (sub_cons rfl (sub_cons rfl sub_nil))))))))) (by decide) (pick_cons rfl (pick_cons rfl (pick_cons rfl (pick_cons rfl (pick_cons rfl (pick_cons rfl (pick_cons rfl (pick_cons rfl (pick_cons rfl pick_nil))))))))) (hK6 true hp)
  refine sx_rd' (rd_move' rfl) rfl rfl (wt_is' (wt_guard' rfl rfl rfl) (beq_ff h3)) ?_
  refine sx_rd' (rd_load' (i := 1) (o := 0) rfl ⟨rfl, rfl, rfl, rfl⟩ rfl flat3) rfl rfl (wt_is' (wt_guard' rfl rfl rfl) (beq_ff h3)) ?_
  refine sx_rd' (rd_bin' rfl rfl eg_int ru_geq) rfl rfl (wt_is' (wt_guard' rfl rfl rfl) (beq_ff h3)) ?_
  refine s0 (rd_pick_false' rfl h3 rfl) ?_
  refine sx_nil' ?_
  show TX E K6 _
  exact tx_pick' [0, 2, 3, 4, 5, 6, 1, 7, 8] (sub_cons rfl (sub_cons rfl (sub_cons rfl (sub_cons rfl (sub_cons rfl (sub_cons rfl (sub_cons rfl (sub_cons rfl (sub_cons rfl sub_nil))))))))) (by decide) (pick_cons rfl (pick_cons rfl (pick_cons rfl (pick_cons rfl (pick_cons rfl (pick_cons rfl (pick_cons rfl (pick_cons rfl (pick_cons rfl pick_nil))))))))) (hK6 (decide (a4_0 ≤ a0)) hp)
 intro K3 hK3
 rcases br_cases hp with ⟨h1, hp⟩ | ⟨h1, hp⟩
 ·refine sx_skip' rfl rfl (wt_is' (wt_guard' rfl rfl rfl) (beq_tf h1)) ?_
  refine sx_skip' rfl rfl (wt_is' (wt_guard' rfl rfl rfl) (beq_tf h1)) ?_
  refine s0 (rd_pick_true' rfl h1 rfl) ?_
  refine sx_nil' ?_
  show TX E K3 _
  exact tx_pick' [0, 1, 2, 3, 4, 5, 6, 7, 8] (sub_cons rfl (sub_cons rfl (sub_cons rfl (sub_cons rfl (sub_cons rfl (sub_cons rfl (sub_cons rfl (sub_cons rfl (sub_cons rfl (sub_cons rfl (sub_cons rfl sub_nil))))))))))) (by decide) (pick_cons rfl (pick_cons rfl (pick_cons rfl (pick_cons rfl (pick_cons rfl (pick_cons rfl (pick_cons rfl (pick_cons rfl (pick_cons rfl pick_nil))))))))) (hK3 true hp)
 refine sx_rd' (rd_load' (i := 0) (o := 0) rfl ⟨rfl, rfl, rfl, rfl⟩ rfl flat4) rfl rfl (wt_is' (wt_guard' rfl rfl rfl) (beq_ff h1)) ?_
 refine sx_rd' (rd_un' rfl ru_not) rfl rfl (wt_is' (wt_guard' rfl rfl rfl) (beq_ff h1)) ?_
 refine s0 (rd_pick_false' rfl h1 rfl) ?_
 refine sx_nil' ?_
 show TX E K3 _
 exact tx_pick' [0, 1, 2, 3, 4, 5, 6, 7, 8] (sub_cons rfl (sub_cons rfl (sub_cons rfl (sub_cons rfl (sub_cons rfl (sub_cons rfl (sub_cons rfl (sub_cons rfl (sub_cons rfl (sub_cons rfl (sub_cons rfl sub_nil))))))))))) (by decide) (pick_cons rfl (pick_cons rfl (pick_cons rfl (pick_cons rfl (pick_cons rfl (pick_cons rfl (pick_cons rfl (pick_cons rfl (pick_cons rfl pick_nil))))))))) (hK3 (!a3_0) hp)
theorem spec_Walk_1_simA : ∀ (k : Nat) (wa3 : Addr) (wa4 : Addr) (wa5 : Addr) (wa5_0 : Gs) (wa6 : Addr) (wa6_0_0 : Addr) (wa7 : Addr) (wa7_0_5 : Addr) (wa7_0_6 : Addr) (a0 : Int) (a1 : Int) (a2 : Int) (a3_0 : Bool) (a4_0 : Int) (a5_0 : List Bool) (a6_0_0_0 : List ((List Nat) × Int × Int × Int × (List Nat) × (List Nat))) (out : Bool × Int × (List Bool) × (List ((List Nat) × Int × Int × Int × (List Nat) × (List Nat))) × (List Int) × (List Int)), spec_Walk_1 k a0 a1 a2 a3_0 a4_0 a5_0 a6_0_0_0 = some out → Sx.Fn Try.prog 65 [(Vi a0), (Vi a1), (Vi a2), (Vp wa3), (Vp wa4), (Vp wa5), (Vp wa6), (Vp wa7), (Vp wa7_0_5), (Vp wa7_0_6)] [⟨.pointer (some wa3), [(Vb a3_0)], 4, none⟩, ⟨.pointer (some wa4), [(Vi a4_0)], 3, none⟩, ⟨.pointer (some wa5), [(Vl (Vs wa5_0))], 53, none⟩, (Rw Kb 4 (Vs wa5_0) a5_0), ⟨.pointer (some wa6), [(Vl (.func (.func 36) #[] ⟨[.pointer (some wa6_0_0)]⟩))], 72, none⟩, ⟨.pointer (some wa6_0_0), [(Sl KT37 a6_0_0_0)], 26, none⟩, ⟨.pointer (some wa7), [(Vl (.func (.func 65) #[] ⟨[.pointer (some wa3), .pointer (some wa4), .pointer (some wa5), .pointer (some wa6), .pointer (some wa7), .pointer (some wa7_0_5), .pointer (some wa7_0_6)]⟩))], 128, none⟩, ⟨.pointer (some wa7_0_5), [Vn], 33, none⟩, ⟨.pointer (some wa7_0_6), [Vn], 33, none⟩] (fun w : Gs × Gs => (Vl (.tuple #[]))) (fun w => [⟨.pointer (some wa3), [(Vb out.1)], 4, none⟩, ⟨.pointer (some wa4), [(Vi out.2.1)], 3, none⟩, ⟨.pointer (some wa5), [(Vl (Vs wa5_0))], 53, none⟩, (Rw Kb 4 (Vs wa5_0) out.2.2.1), ⟨.pointer (some wa6), [(Vl (.func (.func 36) #[] ⟨[.pointer (some wa6_0_0)]⟩))], 72, none⟩, ⟨.pointer (some wa6_0_0), [(Sl KT37 out.2.2.2.1)], 26, none⟩, ⟨.pointer (some wa7), [(Vl (.func (.func 65) #[] ⟨[.pointer (some wa3), .pointer (some wa4), .pointer (some wa5), .pointer (some wa6), .pointer (some wa7), .pointer (some wa7_0_5), .pointer (some wa7_0_6)]⟩))], 128, none⟩, ⟨.pointer (some wa7_0_5), [(Vl (Vs w.1))], 33, none⟩, (Rw (Ki .i64) 3 (Vs w.1) out.2.2.2.2.1), ⟨.pointer (some wa7_0_6), [(Vl (Vs w.2))], 33, none⟩, (Rw (Ki .i64) 3 (Vs w.2) out.2.2.2.2.2)]) := by
 intro k
 induction k with
 | zero => intro wa3 wa4 wa5 wa5_0 wa6 wa6_0_0 wa7 wa7_0_5 wa7_0_6 a0 a1 a2 a3_0 a4_0 a5_0 a6_0_0_0 out hp; cases hp
 | succ k ih => intro wa3 wa4 wa5 wa5_0 wa6 wa6_0_0 wa7 wa7_0_5 wa7_0_6 a0 a1 a2 a3_0 a4_0 a5_0 a6_0_0_0 out hp; exact spec_Walk_1_b_sim ih a0 a1 a2 a3_0 a4_0 a5_0 a6_0_0_0 hp
theorem spec_Walk_1_sim {k : Nat} {wa3 : Addr} {wa4 : Addr} {wa5 : Addr} {wa5_0 : Gs} {wa6 : Addr} {wa6_0_0 : Addr} {wa7 : Addr} {wa7_0_5 : Addr} {wa7_0_6 : Addr} (a0 : Int) (a1 : Int) (a2 : Int) (a3_0 : Bool) (a4_0 : Int) (a5_0 : List Bool) (a6_0_0_0 : List ((List Nat) × Int × Int × Int × (List Nat) × (List Nat))) {out : Bool × Int × (List Bool) × (List ((List Nat) × Int × Int × Int × (List Nat) × (List Nat))) × (List Int) × (List Int)} (hp : spec_Walk_1 k a0 a1 a2 a3_0 a4_0 a5_0 a6_0_0_0 = some out) : Sx.Fn Try.prog 65 [(Vi a0), (Vi a1), (Vi a2), (Vp wa3), (Vp wa4), (Vp wa5), (Vp wa6), (Vp wa7), (Vp wa7_0_5), (Vp wa7_0_6)] [⟨.pointer (some wa3), [(Vb a3_0)], 4, none⟩, ⟨.pointer (some wa4), [(Vi a4_0)], 3, none⟩, ⟨.pointer (some wa5), [(Vl (Vs wa5_0))], 53, none⟩, (Rw Kb 4 (Vs wa5_0) a5_0), ⟨.pointer (some wa6), [(Vl (.func (.func 36) #[] ⟨[.pointer (some wa6_0_0)]⟩))], 72, none⟩, ⟨.pointer (some wa6_0_0), [(Sl KT37 a6_0_0_0)], 26, none⟩, ⟨.pointer (some wa7), [(Vl (.func (.func 65) #[] ⟨[.pointer (some wa3), .pointer (some wa4), .pointer (some wa5), .pointer (some wa6), .pointer (some wa7), .pointer (some wa7_0_5), .pointer (some wa7_0_6)]⟩))], 128, none⟩, ⟨.pointer (some wa7_0_5), [Vn], 33, none⟩, ⟨.pointer (some wa7_0_6), [Vn], 33, none⟩] (fun w : Gs × Gs => (Vl (.tuple #[]))) (fun w => [⟨.pointer (some wa3), [(Vb out.1)], 4, none⟩, ⟨.pointer (some wa4), [(Vi out.2.1)], 3, none⟩, ⟨.pointer (some wa5), [(Vl (Vs wa5_0))], 53, none⟩, (Rw Kb 4 (Vs wa5_0) out.2.2.1), ⟨.pointer (some wa6), [(Vl (.func (.func 36) #[] ⟨[.pointer (some wa6_0_0)]⟩))], 72, none⟩, ⟨.pointer (some wa6_0_0), [(Sl KT37 out.2.2.2.1)], 26, none⟩, ⟨.pointer (some wa7), [(Vl (.func (.func 65) #[] ⟨[.pointer (some wa3), .pointer (some wa4), .pointer (some wa5), .pointer (some wa6), .pointer (some wa7), .pointer (some wa7_0_5), .pointer (some wa7_0_6)]⟩))], 128, none⟩, ⟨.pointer (some wa7_0_5), [(Vl (Vs w.1))], 33, none⟩, (Rw (Ki .i64) 3 (Vs w.1) out.2.2.2.2.1), ⟨.pointer (some wa7_0_6), [(Vl (Vs w.2))], 33, none⟩, (Rw (Ki .i64) 3 (Vs w.2) out.2.2.2.2.2)]) := spec_Walk_1_simA k wa3 wa4 wa5 wa5_0 wa6 wa6_0_0 wa7 wa7_0_5 wa7_0_6 a0 a1 a2 a3_0 a4_0 a5_0 a6_0_0_0 out hp

def spec_Walk (k : Nat) (a0 : Int) (a1 : Int) (a2_0_0 : List ((List Nat) × Int × Int × Int × (List Nat) × (List Nat))) : Option ((List ((List Nat) × Int × Int × Int × (List Nat) × (List Nat))) × (List Int) × (List Int) × Bool) :=
 (mk 1 false a0 a0) >>= fun r12 =>
 (spec_Walk_1 k a1 (-1) 0 true a0 r12 a2_0_0) >>= fun r16 =>
 some (r16.2.2.2.1, r16.2.2.2.2.1, r16.2.2.2.2.2, r16.1)

theorem spec_Walk_sim {k : Nat} {wa2_0 : Addr} (a0 : Int) (a1 : Int) (a2_0_0 : List ((List Nat) × Int × Int × Int × (List Nat) × (List Nat))) {out : (List ((List Nat) × Int × Int × Int × (List Nat) × (List Nat))) × (List Int) × (List Int) × Bool} (hp : spec_Walk k a0 a1 a2_0_0 = some out) : Sx.Fn Try.prog 35 [(Vi a0), (Vi a1), (Vl (.func (.func 36) #[] ⟨[.pointer (some wa2_0)]⟩))] [⟨.pointer (some wa2_0), [(Sl KT37 a2_0_0)], 26, none⟩] (fun w : Unit => (Tu [(Sl (Ki .i64) out.2.1), (Sl (Ki .i64) out.2.2.1), (Vb out.2.2.2)])) (fun w => [⟨.pointer (some wa2_0), [(Sl KT37 out.1)], 26, none⟩]) := by
 unfold spec_Walk at hp
 refine fn_of Try.func35 rfl Try.ntmps35 rfl fun E hM => ?_
 refine cr fun K1 hK1 => ?_
 refine sx_ox' (ox_box' rfl (lv_vl rfl rfl) rfl rfl) (wt_none' rfl) fun q3 => ?_
 refine sx_ox' (ox_box' rfl (lv_vl rfl rfl) rfl rfl) (wt_none' rfl) fun q5 => ?_
 refine sx_ox' (ox_alloc' info33 rfl rfl rfl rfl (l := [Vn]) rfl) (wt_none' rfl) fun q6 => ?_
 refine sx_ox' (ox_alloc' info33 rfl rfl rfl rfl (l := [Vn]) rfl) (wt_none' rfl) fun q7 => ?_
 refine sx_ox' (ox_alloc' info4 rfl rfl rfl rfl (l := [(Vb false)]) rfl) (wt_none' rfl) fun q8 => ?_
 refine nk hK1 ?_
 refine cr fun K2 hK2 => ?_
 refine s0 (rd_load' (i := 4) (o := 0) rfl ⟨rfl, rfl, rfl, rfl⟩ rfl flat3) ?_
 obtain ⟨r12, hr12, hp⟩ := bind_some hp
 refine sx_ox' (ox_make' (K := Kb) rfl rfl hr12 rfl Try.underlying53 info4 rfl rfl rfl rfl rfl) (wt_none' rfl) fun g12 => ?_
 refine sx_ox' (ox_alloc' info53 rfl rfl rfl rfl (l := [Vn]) rfl) (wt_none' rfl) fun q9 => ?_
 refine sx_ox' (ox_store' (i := 0) (o := 0) rfl rfl (lv_vl rfl rfl) ⟨rfl, rfl, rfl, rfl⟩ rfl info53 rfl (H' := [⟨.pointer (some q9), [(Vl (Vs g12))], 53, none⟩, (Rw Kb 4 (Vs g12) r12), ⟨.pointer (some q8), [(Vb false)], 4, none⟩, ⟨.pointer (some q7), [Vn], 33, none⟩, ⟨.pointer (some q6), [Vn], 33, none⟩, ⟨.pointer (some q5), [(Vl (.func (.func 36) #[] ⟨[.pointer (some wa2_0)]⟩))], 72, none⟩, ⟨.pointer (some q3), [(Vi a0)], 3, none⟩, ⟨.pointer (some wa2_0), [(Sl KT37 a2_0_0)], 26, none⟩]) rfl) (wt_none' rfl) fun _ => ?_
 refine nk hK2 ?_
 refine cr fun K3 hK3 => ?_
 refine sx_ox' (ox_store' (i := 2) (o := 0) rfl rfl (lv_vl rfl rfl) ⟨rfl, rfl, rfl, rfl⟩ rfl info4 rfl (H' := [⟨.pointer (some q9), [(Vl (Vs g12))], 53, none⟩, (Rw Kb 4 (Vs g12) r12), ⟨.pointer (some q8), [(Vb true)], 4, none⟩, ⟨.pointer (some q7), [Vn], 33, none⟩, ⟨.pointer (some q6), [Vn], 33, none⟩, ⟨.pointer (some q5), [(Vl (.func (.func 36) #[] ⟨[.pointer (some wa2_0)]⟩))], 72, none⟩, ⟨.pointer (some q3), [(Vi a0)], 3, none⟩, ⟨.pointer (some wa2_0), [(Sl KT37 a2_0_0)], 26, none⟩]) rfl) (wt_none' rfl) fun _ => ?_
 refine nk hK3 ?_
 refine cr fun K4 hK4 => ?_
 refine sx_ox' (ox_alloc' info128 rfl rfl rfl rfl (l := [(Vl .nilFunc)]) rfl) (wt_none' rfl) fun q10 => ?_
 refine nk hK4 ?_
 refine cr fun K5 hK5 => ?_
 refine s0 (rd_mkfunc' (us := [.pointer (some q8), .pointer (some q3), .pointer (some q9), .pointer (some q5), .pointer (some q10), .pointer (some q6), .pointer (some q7)]) rfl) ?_
 refine sx_ox' (ox_store' (i := 0) (o := 0) rfl rfl (lv_vl rfl rfl) ⟨rfl, rfl, rfl, rfl⟩ rfl info128 rfl (H' := [⟨.pointer (some q10), [(Vl (.func (.func 65) #[] ⟨[.pointer (some q8), .pointer (some q3), .pointer (some q9), .pointer (some q5), .pointer (some q10), .pointer (some q6), .pointer (some q7)]⟩))], 128, none⟩, ⟨.pointer (some q9), [(Vl (Vs g12))], 53, none⟩, (Rw Kb 4 (Vs g12) r12), ⟨.pointer (some q8), [(Vb true)], 4, none⟩, ⟨.pointer (some q7), [Vn], 33, none⟩, ⟨.pointer (some q6), [Vn], 33, none⟩, ⟨.pointer (some q5), [(Vl (.func (.func 36) #[] ⟨[.pointer (some wa2_0)]⟩))], 72, none⟩, ⟨.pointer (some q3), [(Vi a0)], 3, none⟩, ⟨.pointer (some wa2_0), [(Sl KT37 a2_0_0)], 26, none⟩]) rfl) (wt_none' rfl) fun _ => ?_
 refine nk hK5 ?_
 refine cr fun K6 hK6 => ?_
 refine s0 (rd_load' (i := 0) (o := 0) rfl ⟨rfl, rfl, rfl, rfl⟩ rfl flat128) ?_
 refine s0 (rd_move' rfl) ?_
 obtain ⟨r16, hr16, hp⟩ := bind_some hp
 refine sx_ox' (ox_callg' (ent_clo' (us := [.pointer (some q8), .pointer (some q3), .pointer (some q9), .pointer (some q5), .pointer (some q10), .pointer (some q6), .pointer (some q7)]) rfl Try.func65 isn65 rfl rfl) (spec_Walk_1_sim _ _ _ _ _ _ _ hr16 : Sx.Fn Try.prog 65 [(Vi a1), (Vi (-1)), (Vi 0), (Vp q8), (Vp q3), (Vp q9), (Vp q5), (Vp q10), (Vp q6), (Vp q7)] [⟨.pointer (some q8), [(Vb true)], 4, none⟩, ⟨.pointer (some q3), [(Vi a0)], 3, none⟩, ⟨.pointer (some q9), [(Vl (Vs g12))], 53, none⟩, (Rw Kb 4 (Vs g12) r12), ⟨.pointer (some q5), [(Vl (.func (.func 36) #[] ⟨[.pointer (some wa2_0)]⟩))], 72, none⟩, ⟨.pointer (some wa2_0), [(Sl KT37 a2_0_0)], 26, none⟩, ⟨.pointer (some q10), [(Vl (.func (.func 65) #[] ⟨[.pointer (some q8), .pointer (some q3), .pointer (some q9), .pointer (some q5), .pointer (some q10), .pointer (some q6), .pointer (some q7)]⟩))], 128, none⟩, ⟨.pointer (some q6), [Vn], 33, none⟩, ⟨.pointer (some q7), [Vn], 33, none⟩] (fun x : Gs × Gs => (Vl (.tuple #[]))) (fun x => [⟨.pointer (some q8), [(Vb r16.1)], 4, none⟩, ⟨.pointer (some q3), [(Vi r16.2.1)], 3, none⟩, ⟨.pointer (some q9), [(Vl (Vs g12))], 53, none⟩, (Rw Kb 4 (Vs g12) r16.2.2.1), ⟨.pointer (some q5), [(Vl (.func (.func 36) #[] ⟨[.pointer (some wa2_0)]⟩))], 72, none⟩, ⟨.pointer (some wa2_0), [(Sl KT37 r16.2.2.2.1)], 26, none⟩, ⟨.pointer (some q10), [(Vl (.func (.func 65) #[] ⟨[.pointer (some q8), .pointer (some q3), .pointer (some q9), .pointer (some q5), .pointer (some q10), .pointer (some q6), .pointer (some q7)]⟩))], 128, none⟩, ⟨.pointer (some q6), [(Vl (Vs x.1))], 33, none⟩, (Rw (Ki .i64) 3 (Vs x.1) r16.2.2.2.2.1), ⟨.pointer (some q7), [(Vl (Vs x.2))], 33, none⟩, (Rw (Ki .i64) 3 (Vs x.2) r16.2.2.2.2.2)])) [3, 7, 1, 2, 6, 8, 0, 5, 4] [] (by decide) (pick_cons rfl (pick_cons rfl (pick_cons rfl (pick_cons rfl (pick_cons rfl (pick_cons rfl (pick_cons rfl (pick_cons rfl (pick_cons rfl pick_nil))))))))) pick_nil (Hn := fun x : Gs × Gs => [⟨.pointer (some q8), [(Vb r16.1)], 4, none⟩, ⟨.pointer (some q3), [(Vi r16.2.1)], 3, none⟩, ⟨.pointer (some q9), [(Vl (Vs g12))], 53, none⟩, (Rw Kb 4 (Vs g12) r16.2.2.1), ⟨.pointer (some q5), [(Vl (.func (.func 36) #[] ⟨[.pointer (some wa2_0)]⟩))], 72, none⟩, ⟨.pointer (some wa2_0), [(Sl KT37 r16.2.2.2.1)], 26, none⟩, ⟨.pointer (some q10), [(Vl (.func (.func 65) #[] ⟨[.pointer (some q8), .pointer (some q3), .pointer (some q9), .pointer (some q5), .pointer (some q10), .pointer (some q6), .pointer (some q7)]⟩))], 128, none⟩, ⟨.pointer (some q6), [(Vl (Vs x.1))], 33, none⟩, (Rw (Ki .i64) 3 (Vs x.1) r16.2.2.2.2.1), ⟨.pointer (some q7), [(Vl (Vs x.2))], 33, none⟩, (Rw (Ki .i64) 3 (Vs x.2) r16.2.2.2.2.2)]) (fun _ => rfl) rfl rfl) (wt_none' rfl) fun ⟨g16, gz1⟩ => ?_
 refine nk hK6 ?_
 refine cx_seq' fun K7 hK7 => ?_
 refine cx_plana' [q7.block] [(3, 1), (4, 2), (5, 1)] [(0, 1), (1, 2)] 4 #[true, true, false, false, false, false] mixed (by kernel_rfl) ?_
 refine px_rd' rfl (rd_load' (i := 7) (o := 0) rfl ⟨rfl, rfl, rfl, rfl⟩ rfl flat33) rfl rfl (wt_none' rfl) ?_
 refine px_rb' rfl (rb_load' (i := 9) (o := 0) rfl ⟨rfl, rfl, rfl, rfl⟩ rfl flat33 (by simp)) rfl rfl (wt_none' rfl) ?_
 refine px_nil' ?_
 show AX E _ _ _ _ _ _ _ _
 refine ax_node (f' := 0) #[true, true, true, true, true, true] (fun (v6 : Unit) => (⟨20, [], [(6, (Vp q6)), (7, (Vp q7)), (8, (Vp q8))], [⟨.pointer (some q6), [(Vl (Vs g16))], 33, none⟩, (Rw (Ki .i64) 3 (Vs g16) r16.2.2.2.2.1), ⟨.pointer (some q7), [(Vl (Vs gz1))], 33, none⟩, (Rw (Ki .i64) 3 (Vs gz1) r16.2.2.2.2.2), ⟨.pointer (some q8), [(Vb r16.1)], 4, none⟩, ⟨.pointer (some wa2_0), [(Sl KT37 r16.2.2.2.1)], 26, none⟩]⟩ : St)) ?_ ?_
 ·rintro ⟨⟩
  refine ax_nil (by kernel_rfl) ?_
  show TX E K7 _
  refine tx_k' hK7 ?_
  refine cx_retc' ?_
  replace hp := Option.some.inj hp
  subst hp
  refine tx_fz' (frz_row 1 [] (K := (Ki .i64)) (xs := r16.2.2.2.2.1) (by decide) rfl trivial (H' := [⟨.pointer (some q6), [(Sl (Ki .i64) r16.2.2.2.2.1)], 33, none⟩, ⟨.pointer (some q7), [(Vl (Vs gz1))], 33, none⟩, (Rw (Ki .i64) 3 (Vs gz1) r16.2.2.2.2.2), ⟨.pointer (some q8), [(Vb r16.1)], 4, none⟩, ⟨.pointer (some wa2_0), [(Sl KT37 r16.2.2.2.1)], 26, none⟩]) (frzH_cons rfl rfl rfl (frzL_cons frz_it frzL_refl) (frzH_cons rfl rfl rfl frzL_refl (frzH_cons rfl rfl rfl frzL_refl (frzH_cons rfl rfl rfl frzL_refl (frzH_cons rfl rfl rfl frzL_refl frzH_refl)))))) ?_
  refine tx_fz' (frz_row 2 [] (K := (Ki .i64)) (xs := r16.2.2.2.2.2) (by decide) rfl trivial (H' := [⟨.pointer (some q6), [(Sl (Ki .i64) r16.2.2.2.2.1)], 33, none⟩, ⟨.pointer (some q7), [(Sl (Ki .i64) r16.2.2.2.2.2)], 33, none⟩, ⟨.pointer (some q8), [(Vb r16.1)], 4, none⟩, ⟨.pointer (some wa2_0), [(Sl KT37 r16.2.2.2.1)], 26, none⟩]) (frzH_cons rfl rfl rfl frzL_refl (frzH_cons rfl rfl rfl (frzL_cons frz_it frzL_refl) (frzH_cons rfl rfl rfl frzL_refl (frzH_cons rfl rfl rfl frzL_refl frzH_refl))))) ?_
  refine tx_pick' (L' := [(6, (Vp q6)), (7, (Vp q7)), (8, (Vp q8))]) (H' := [⟨.pointer (some wa2_0), [(Sl KT37 r16.2.2.2.1)], 26, none⟩, ⟨.pointer (some q6), [(Sl (Ki .i64) r16.2.2.2.2.1)], 33, none⟩, ⟨.pointer (some q7), [(Sl (Ki .i64) r16.2.2.2.2.2)], 33, none⟩, ⟨.pointer (some q8), [(Vb r16.1)], 4, none⟩]) [3, 0, 1, 2] (sub_cons rfl (sub_cons rfl (sub_cons rfl sub_nil))) (by decide) (pick_cons rfl (pick_cons rfl (pick_cons rfl (pick_cons rfl pick_nil)))) ?_
  exact tx_ret3' Try.results35 rfl () (rv_cell' (i := 1) (o := 0) rfl ⟨rfl, rfl, rfl, rfl⟩ rfl flat33) (rv_cell' (i := 2) (o := 0) rfl ⟨rfl, rfl, rfl, rfl⟩ rfl flat33) (rv_cell' (i := 3) (o := 0) rfl ⟨rfl, rfl, rfl, rfl⟩ rfl flat4) rfl (List.Sublist.cons_cons _ (List.nil_sublist _))
 intro hN7
 refine ax_node (f' := 1) #[true, true, true, true, true, false] (fun (v5 : Unit) => (⟨20, [], [(19, (Vb r16.1)), (6, (Vp q6)), (7, (Vp q7)), (8, (Vp q8))], [⟨.pointer (some q6), [(Vl (Vs g16))], 33, none⟩, (Rw (Ki .i64) 3 (Vs g16) r16.2.2.2.2.1), ⟨.pointer (some q7), [(Vl (Vs gz1))], 33, none⟩, (Rw (Ki .i64) 3 (Vs gz1) r16.2.2.2.2.2), ⟨.pointer (some q8), [(Vb r16.1)], 4, none⟩, ⟨.pointer (some wa2_0), [(Sl KT37 r16.2.2.2.1)], 26, none⟩]⟩ : St)) ?_ ?_
 ·rintro ⟨⟩
  refine ax_all (i := 5) (is := []) (by kernel_rfl) (all_cons ?_ all_nil)
  ·refine nx_oxv (last := #[true, true, true, true, true, true]) rfl (oxv_store (i := 4) (o := 0) rfl rfl (lv_vl rfl rfl) ⟨rfl, rfl, rfl, rfl⟩ rfl info4 rfl (H' := [⟨.pointer (some q6), [(Vl (Vs g16))], 33, none⟩, (Rw (Ki .i64) 3 (Vs g16) r16.2.2.2.2.1), ⟨.pointer (some q7), [(Vl (Vs gz1))], 33, none⟩, (Rw (Ki .i64) 3 (Vs gz1) r16.2.2.2.2.2), ⟨.pointer (some q8), [(Vb r16.1)], 4, none⟩, ⟨.pointer (some wa2_0), [(Sl KT37 r16.2.2.2.1)], 26, none⟩]) rfl) rfl rfl (bo_cons (m := 2) (by decide) rfl rfl bo_nil) (wt_none' rfl) rfl fun _ => ?_
   exact tx_pick' [0, 1, 2, 3, 4, 5] (sub_cons rfl (sub_cons rfl (sub_cons rfl sub_nil))) (by decide) (pick_cons rfl (pick_cons rfl (pick_cons rfl (pick_cons rfl (pick_cons rfl (pick_cons rfl pick_nil)))))) (hN7 ())
 intro hN6
 refine ax_node (f' := 2) #[true, true, true, true, false, false] (fun (v3 : Unit) => (⟨20, [], [(18, (Vl (Vs gz1))), (19, (Vb r16.1)), (6, (Vp q6)), (7, (Vp q7)), (8, (Vp q8))], [(Rw (Ki .i64) 3 (Vs gz1) r16.2.2.2.2.2), ⟨.pointer (some q6), [(Vl (Vs g16))], 33, none⟩, (Rw (Ki .i64) 3 (Vs g16) r16.2.2.2.2.1), ⟨.pointer (some q7), [(Vl (Vs gz1))], 33, none⟩, ⟨.pointer (some q8), [(Vb r16.1)], 4, none⟩, ⟨.pointer (some wa2_0), [(Sl KT37 r16.2.2.2.1)], 26, none⟩]⟩ : St)) ?_ ?_
 ·rintro ⟨⟩
  refine ax_all (i := 4) (is := []) (by kernel_rfl) (all_cons ?_ all_nil)
  ·refine nx_ox (last := #[true, true, true, true, true, false]) rfl (ox_store' (i := 3) (o := 0) rfl rfl (lv_vl rfl rfl) ⟨rfl, rfl, rfl, rfl⟩ rfl info33 rfl (H' := [(Rw (Ki .i64) 3 (Vs gz1) r16.2.2.2.2.2), ⟨.pointer (some q6), [(Vl (Vs g16))], 33, none⟩, (Rw (Ki .i64) 3 (Vs g16) r16.2.2.2.2.1), ⟨.pointer (some q7), [(Vl (Vs gz1))], 33, none⟩, ⟨.pointer (some q8), [(Vb r16.1)], 4, none⟩, ⟨.pointer (some wa2_0), [(Sl KT37 r16.2.2.2.1)], 26, none⟩]) rfl) rfl (bs_cons (m := 3) rfl rfl rfl bs_nil) (wt_none' rfl) rfl fun _ => ?_
   exact tx_pick' [1, 2, 3, 0, 4, 5] (sub_cons rfl (sub_cons rfl (sub_cons rfl (sub_cons rfl sub_nil)))) (by decide) (pick_cons rfl (pick_cons rfl (pick_cons rfl (pick_cons rfl (pick_cons rfl (pick_cons rfl pick_nil)))))) (hN6 ())
 intro hN4
 refine ax_node (f' := 2) #[true, true, false, true, true, false] (fun (v4 : Unit) => (⟨20, [], [(6, (Vp q6)), (7, (Vp q7)), (8, (Vp q8))], [⟨.pointer (some q6), [(Vl (Vs g16))], 33, none⟩, (Rw (Ki .i64) 3 (Vs g16) r16.2.2.2.2.1), ⟨.pointer (some q7), [(Vl (Vs gz1))], 33, none⟩, (Rw (Ki .i64) 3 (Vs gz1) r16.2.2.2.2.2), ⟨.pointer (some q8), [(Vb r16.1)], 4, none⟩, ⟨.pointer (some wa2_0), [(Sl KT37 r16.2.2.2.1)], 26, none⟩]⟩ : St)) ?_ ?_
 ·rintro ⟨⟩
  refine ax_rd (ix := 2) (last := #[true, true, true, true, true, false]) (by kernel_rfl) rfl (rd_load' (i := 4) (o := 0) rfl ⟨rfl, rfl, rfl, rfl⟩ rfl flat4) rfl rfl (wt_none' rfl) rfl ?_
  exact tx_pick' [0, 1, 2, 3, 4, 5] (sub_cons rfl (sub_cons rfl (sub_cons rfl (sub_cons rfl sub_nil)))) (by decide) (pick_cons rfl (pick_cons rfl (pick_cons rfl (pick_cons rfl (pick_cons rfl (pick_cons rfl pick_nil)))))) (hN6 ())
 intro hN5
 refine ax_node (f' := 3) #[true, true, true, false, false, false] (fun (v1 : Unit) => (⟨20, [], [(17, (Vl (Vs g16))), (18, (Vl (Vs gz1))), (19, (Vb r16.1)), (6, (Vp q6)), (7, (Vp q7)), (8, (Vp q8))], [(Rw (Ki .i64) 3 (Vs g16) r16.2.2.2.2.1), (Rw (Ki .i64) 3 (Vs gz1) r16.2.2.2.2.2), ⟨.pointer (some q6), [(Vl (Vs g16))], 33, none⟩, ⟨.pointer (some q7), [(Vl (Vs gz1))], 33, none⟩, ⟨.pointer (some q8), [(Vb r16.1)], 4, none⟩, ⟨.pointer (some wa2_0), [(Sl KT37 r16.2.2.2.1)], 26, none⟩]⟩ : St)) ?_ ?_
 ·rintro ⟨⟩
  refine ax_all (i := 3) (is := []) (by kernel_rfl) (all_cons ?_ all_nil)
  ·refine nx_oxv (last := #[true, true, true, true, false, false]) rfl (oxv_store (i := 2) (o := 0) rfl rfl (lv_vl rfl rfl) ⟨rfl, rfl, rfl, rfl⟩ rfl info33 rfl (H' := [(Rw (Ki .i64) 3 (Vs g16) r16.2.2.2.2.1), (Rw (Ki .i64) 3 (Vs gz1) r16.2.2.2.2.2), ⟨.pointer (some q6), [(Vl (Vs g16))], 33, none⟩, ⟨.pointer (some q7), [(Vl (Vs gz1))], 33, none⟩, ⟨.pointer (some q8), [(Vb r16.1)], 4, none⟩, ⟨.pointer (some wa2_0), [(Sl KT37 r16.2.2.2.1)], 26, none⟩]) rfl) rfl rfl (bo_cons (m := 3) (by decide) rfl rfl bo_nil) (wt_none' rfl) rfl fun _ => ?_
   exact tx_pick' [1, 2, 0, 3, 4, 5] (sub_cons rfl (sub_cons rfl (sub_cons rfl (sub_cons rfl (sub_cons rfl sub_nil))))) (by decide) (pick_cons rfl (pick_cons rfl (pick_cons rfl (pick_cons rfl (pick_cons rfl (pick_cons rfl pick_nil)))))) (hN4 ())
 intro hN2
 refine ax_node (f' := 3) #[true, true, false, true, false, false] (fun (v2 : Unit) => (⟨20, [], [(18, (Vl (Vs gz1))), (6, (Vp q6)), (7, (Vp q7)), (8, (Vp q8))], [(Rw (Ki .i64) 3 (Vs gz1) r16.2.2.2.2.2), ⟨.pointer (some q6), [(Vl (Vs g16))], 33, none⟩, (Rw (Ki .i64) 3 (Vs g16) r16.2.2.2.2.1), ⟨.pointer (some q7), [(Vl (Vs gz1))], 33, none⟩, ⟨.pointer (some q8), [(Vb r16.1)], 4, none⟩, ⟨.pointer (some wa2_0), [(Sl KT37 r16.2.2.2.1)], 26, none⟩]⟩ : St)) ?_ ?_
 ·rintro ⟨⟩
  refine ax_all (i := 2) (is := [4]) (by kernel_rfl) (all_cons ?_ (all_cons ?_ all_nil))
  ·refine nx_rd (last := #[true, true, true, true, false, false]) rfl (rd_load' (i := 4) (o := 0) rfl ⟨rfl, rfl, rfl, rfl⟩ rfl flat4) rfl rfl (wt_none' rfl) rfl ?_
   exact tx_pick' [0, 1, 2, 3, 4, 5] (sub_cons rfl (sub_cons rfl (sub_cons rfl (sub_cons rfl (sub_cons rfl sub_nil))))) (by decide) (pick_cons rfl (pick_cons rfl (pick_cons rfl (pick_cons rfl (pick_cons rfl (pick_cons rfl pick_nil)))))) (hN4 ())
  refine nx_ox (last := #[true, true, false, true, true, false]) rfl (ox_store' (i := 3) (o := 0) rfl rfl (lv_vl rfl rfl) ⟨rfl, rfl, rfl, rfl⟩ rfl info33 rfl (H' := [(Rw (Ki .i64) 3 (Vs gz1) r16.2.2.2.2.2), ⟨.pointer (some q6), [(Vl (Vs g16))], 33, none⟩, (Rw (Ki .i64) 3 (Vs g16) r16.2.2.2.2.1), ⟨.pointer (some q7), [(Vl (Vs gz1))], 33, none⟩, ⟨.pointer (some q8), [(Vb r16.1)], 4, none⟩, ⟨.pointer (some wa2_0), [(Sl KT37 r16.2.2.2.1)], 26, none⟩]) rfl) rfl (bs_cons (m := 3) rfl rfl rfl bs_nil) (wt_none' rfl) rfl fun _ => ?_
  exact tx_pick' [1, 2, 3, 0, 4, 5] (sub_cons rfl (sub_cons rfl (sub_cons rfl sub_nil))) (by decide) (pick_cons rfl (pick_cons rfl (pick_cons rfl (pick_cons rfl (pick_cons rfl (pick_cons rfl pick_nil)))))) (hN5 ())
 intro hN3
 refine ax_all (i := 2) (is := [3]) (by kernel_rfl) (all_cons ?_ (all_cons ?_ all_nil))
 ·refine nx_rd (last := #[true, true, true, false, false, false]) rfl (rd_load' (i := 0) (o := 0) rfl ⟨rfl, rfl, rfl, rfl⟩ rfl flat4) rfl rfl (wt_none' rfl) rfl ?_
  exact tx_pick' [8, 10, 7, 9, 0, 5] (sub_cons rfl (sub_cons rfl (sub_cons rfl (sub_cons rfl (sub_cons rfl (sub_cons rfl sub_nil)))))) (by decide) (pick_cons rfl (pick_cons rfl (pick_cons rfl (pick_cons rfl (pick_cons rfl (pick_cons rfl pick_nil)))))) (hN2 ())
 refine nx_oxv (last := #[true, true, false, true, false, false]) rfl (oxv_store (i := 7) (o := 0) rfl rfl (lv_vl rfl rfl) ⟨rfl, rfl, rfl, rfl⟩ rfl info33 rfl (H' := [⟨.pointer (some q8), [(Vb r16.1)], 4, none⟩, ⟨.pointer (some q3), [(Vi r16.2.1)], 3, none⟩, ⟨.pointer (some q9), [(Vl (Vs g12))], 53, none⟩, (Rw Kb 4 (Vs g12) r16.2.2.1), ⟨.pointer (some q5), [(Vl (.func (.func 36) #[] ⟨[.pointer (some wa2_0)]⟩))], 72, none⟩, ⟨.pointer (some wa2_0), [(Sl KT37 r16.2.2.2.1)], 26, none⟩, ⟨.pointer (some q10), [(Vl (.func (.func 65) #[] ⟨[.pointer (some q8), .pointer (some q3), .pointer (some q9), .pointer (some q5), .pointer (some q10), .pointer (some q6), .pointer (some q7)]⟩))], 128, none⟩, ⟨.pointer (some q6), [(Vl (Vs g16))], 33, none⟩, (Rw (Ki .i64) 3 (Vs g16) r16.2.2.2.2.1), ⟨.pointer (some q7), [(Vl (Vs gz1))], 33, none⟩, (Rw (Ki .i64) 3 (Vs gz1) r16.2.2.2.2.2)]) rfl) rfl rfl (bo_cons (m := 9) (by decide) rfl rfl bo_nil) (wt_none' rfl) rfl fun _ => ?_
 exact tx_pick' [10, 7, 8, 9, 0, 5] (sub_cons rfl (sub_cons rfl (sub_cons rfl (sub_cons rfl sub_nil)))) (by decide) (pick_cons rfl (pick_cons rfl (pick_cons rfl (pick_cons rfl (pick_cons rfl (pick_cons rfl pick_nil)))))) (hN3 ())

def spec_KWalk (k : Nat) (a0 : List ((List Nat) × Int × Int × Int × (List Nat) × (List Nat))) (a1 : Int) : Option ((List Int) × (List Int) × Bool) :=
 (spec_Walk k (a0.length : Int) a1 a0) >>= fun r11 =>
 some (r11.2.1, r11.2.2.1, r11.2.2.2)

theorem spec_KWalk_sim {k : Nat}  (a0 : List ((List Nat) × Int × Int × Int × (List Nat) × (List Nat))) (a1 : Int) {out : (List Int) × (List Int) × Bool} (hp : spec_KWalk k a0 a1 = some out) : Sx.Fn Try.prog 14 [(Sl KT37 a0), (Vi a1)] [] (fun w : Unit => (Tu [(Sl (Ki .i64) out.1), (Sl (Ki .i64) out.2.1), (Vb out.2.2)])) (fun w => []) := by
 unfold spec_KWalk at hp
 refine fn_of Try.func14 rfl Try.ntmps14 rfl fun E hM => ?_
 refine cr fun K1 hK1 => ?_
 refine sx_ox' (ox_box' rfl (lv_sl _ _) rfl rfl) (wt_none' rfl) fun q2 => ?_
 refine s0 (rd_assign' rfl) ?_
 refine s0 (rd_assign' rfl) ?_
 refine s0 (rd_assign' rfl) ?_
 refine nk hK1 ?_
 refine cr fun K2 hK2 => ?_
 refine s0 (rd_load' (i := 0) (o := 0) rfl ⟨rfl, rfl, rfl, rfl⟩ rfl flat26) ?_
 refine s0 (rd_len' rfl Try.underlying26) ?_
 refine s0 (rd_move' rfl) ?_
 refine s0 (rd_mkfunc' (us := [.pointer (some q2)]) rfl) ?_
 obtain ⟨r11, hr11, hp⟩ := bind_some hp
 refine sx_ox' (ox_callg' (ent_fn' Try.func35 isn35 rfl rfl) (spec_Walk_sim _ _ _ hr11 : Sx.Fn Try.prog 35 [(Vi (a0.length : Int)), (Vi a1), (Vl (.func (.func 36) #[] ⟨[.pointer (some q2)]⟩))] [⟨.pointer (some q2), [(Sl KT37 a0)], 26, none⟩] (fun x : Unit => (Tu [(Sl (Ki .i64) r11.2.1), (Sl (Ki .i64) r11.2.2.1), (Vb r11.2.2.2)])) (fun x => [⟨.pointer (some q2), [(Sl KT37 r11.1)], 26, none⟩])) [0] [] (by decide) (pick_cons rfl pick_nil) pick_nil (Hn := fun x : Unit => [⟨.pointer (some q2), [(Sl KT37 r11.1)], 26, none⟩]) (fun _ => rfl) rfl rfl) (wt_none' rfl) fun ⟨⟩ => ?_
 refine s0 (rd_extract' rfl rfl) ?_
 refine s0 (rd_extract' rfl rfl) ?_
 refine s0 (rd_extract' rfl rfl) ?_
 refine s0 (rd_assign' rfl) ?_
 refine s0 (rd_assign' rfl) ?_
 refine s0 (rd_assign' rfl) ?_
 refine nk hK2 ?_
 refine cx_retc' ?_
 replace hp := Option.some.inj hp
 subst hp
 refine tx_pick' (L' := [(4, (Sl (Ki .i64) r11.2.1)), (5, (Sl (Ki .i64) r11.2.2.1)), (6, (Vb r11.2.2.2))]) (H' := []) [] (sub_cons rfl (sub_cons rfl (sub_cons rfl sub_nil))) (by decide) pick_nil ?_
 exact tx_ret3' Try.results14 rfl () (rv_tmp' rfl) (rv_tmp' rfl) (rv_tmp' rfl) rfl (List.Sublist.refl _)

def spec_KPoints_l1s (r14 : (List Int) × (List Int) × Bool) (a0 : List ((List Nat) × Int × Int × Int × (List Nat) × (List Nat))) (k : Nat) (rec1 : ((List (List Nat)) × Int) → Option ((List (List Nat)))) (x1 : List (List Nat)) (x2 : Int) : Option ((List (List Nat))) :=
 br (decide (x2 < (r14.1.length : Int)))
  ((idx r14.1 x2) >>= fun r22 =>
  (idx a0 r22) >>= fun r27 =>
  (apd 24 x1 ([r27.1])) >>= fun r31 =>
  rec1 (r31, (iadd .i64 x2 1)))
  (some x1)
def spec_KPoints_l1 (r14 : (List Int) × (List Int) × Bool) (a0 : List ((List Nat) × Int × Int × Int × (List Nat) × (List Nat))) : Nat → ((List (List Nat)) × Int) → Option ((List (List Nat)))
 | 0, _ => none
 | k + 1, v => spec_KPoints_l1s r14 a0 k (spec_KPoints_l1 r14 a0 k) v.1 v.2
def spec_KPoints (k : Nat) (a0 : List ((List Nat) × Int × Int × Int × (List Nat) × (List Nat))) (a1 : Int) : Option ((List (List Nat))) :=
 (spec_KWalk k a0 a1) >>= fun r14 =>
 (spec_KPoints_l1 r14 a0 k ([], 0)) >>= fun v2 =>
 some v2

theorem spec_KPoints_sim {k : Nat}  (a0 : List ((List Nat) × Int × Int × Int × (List Nat) × (List Nat))) (a1 : Int) {out : (List (List Nat))} (hp : spec_KPoints k a0 a1 = some out) : Sx.Fn Try.prog 12 [(Sl KT37 a0), (Vi a1)] [] (fun w : Unit => (Sl (Kl Kf) out)) (fun w => []) := by
 unfold spec_KPoints at hp
 refine fn_of Try.func12 rfl Try.ntmps12 rfl fun E hM => ?_
 refine cr fun K1 hK1 => ?_
 refine s0 (rd_assign' rfl) ?_
 refine nk hK1 ?_
 refine cr fun K2 hK2 => ?_
 refine s0 (rd_assign' rfl) ?_
 refine nk hK2 ?_
 refine cr fun K3 hK3 => ?_
 refine s0 (rd_move' rfl) ?_
 refine s0 (rd_move' rfl) ?_
 obtain ⟨r14, hr14, hp⟩ := bind_some hp
 refine sx_ox' (ox_calln' (ent_fn' Try.func14 isn14 rfl rfl) (spec_KWalk_sim _ _ hr14 : Sx.Fn Try.prog 14 [(Sl KT37 a0), (Vi a1)] [] (fun x : Unit => (Tu [(Sl (Ki .i64) r14.1), (Sl (Ki .i64) r14.2.1), (Vb r14.2.2)])) (fun x => [])) (Hn := fun x : Unit => []) (fun _ => rfl) rfl rfl) (wt_none' rfl) fun ⟨⟩ => ?_
 refine s0 (rd_move' rfl) ?_
 refine s0 (rd_extract' rfl rfl) ?_
 refine s0 (rd_extract' rfl rfl) ?_
 refine s0 (rd_extract' rfl rfl) ?_
 refine s0 (rd_assign' rfl) ?_
 refine s0 (rd_assign' rfl) ?_
 refine s0 (rd_assign' rfl) ?_
 refine nk hK3 ?_
 refine cx_seq' fun K4 hK4 => ?_
 refine cr fun K5 hK5 => ?_
 refine s0 (rd_move' rfl) ?_
 refine s0 (rd_len' rfl Try.underlying33) ?_
 refine s0 (rd_move' rfl) ?_
 refine nk hK5 ?_
 refine cx_block' ?_
 obtain ⟨v2, hy1, hp⟩ := bind_some hp
 refine tx_nilrow' (Kl Kf) 25 ?_
 refine cx_loopg' (F := spec_KPoints_l1 r14 a0) (G := fun k R v => spec_KPoints_l1s r14 a0 k R v.1 v.2) (x := ([], 0)) (gh := (none, 0, 0)) (fun (v1 : (List (List Nat)) × Int) (w1 : Gs) => (⟨34, [], [(0, (Sl KT37 a0)), (5, (Vl (Vs w1))), (18, (Sl (Ki .i64) r14.1)), (19, (Vi (r14.1.length : Int))), (20, (Vi v1.2))], [(Rw (Kl Kf) 25 (Vs w1) v1.1)]⟩ : St)) (fun (v2 : (List (List Nat))) => Zg E (Exit.exit 0) (fun (w2 : Gs) => (⟨34, [], [(5, (Vl (Vs w2)))], [(Rw (Kl Kf) 25 (Vs w2) v2)]⟩ : St))) (fun _ => rfl) (fun _ _ => rfl) ?_ hy1 (tx_to' rfl [0] (sub_cons rfl (sub_cons rfl (sub_cons rfl (sub_cons rfl (sub_cons rfl sub_nil))))) (by decide) (pick_cons rfl pick_nil)) ?_
 ·clear hp hy1
  clear v2
  intro k rec1 KY1 ih1
  rintro ⟨x1, x2⟩ g901 y1 hp
  replace hp : spec_KPoints_l1s r14 a0 k rec1 x1 x2 = some y1 := hp
  unfold spec_KPoints_l1s at hp
  refine cr fun K10 hK10 => ?_
  refine s0 (rd_bin' rfl rfl eg_int ru_lss) ?_
  refine nk hK10 ?_
  refine cx_seq' fun K11 hK11 => ?_
  refine cx_cond' rfl (fun h3 => ?_) (fun h3 => ?_)
  ·replace hp := (br_t h3).symm.trans hp
   refine cx_skip' ?_
   show TX E K11 _
   refine tx_k' hK11 ?_
   refine cx_seq' fun K12 hK12 => ?_
   refine cx_block' ?_
   refine cr fun K13 hK13 => ?_
   obtain ⟨r22, hr22, hp⟩ := bind_some hp
   refine s0 (rd_at' (K := (Ki .i64)) rfl rfl hr22 Try.underlying33 info3) ?_
   refine s0 (rd_load_pt' rfl rfl flat3) ?_
   refine s0 (rd_assign' rfl) ?_
   refine nk hK13 ?_
   refine cx_region' ?_
   refine s0 (rd_move' rfl) ?_
   refine s0 (rd_move' rfl) ?_
   refine s0 (rd_move' rfl) ?_
   obtain ⟨r27, hr27, hp⟩ := bind_some hp
   refine s0 (rd_at' (K := KT37) rfl rfl hr27 Try.underlying26 info37) ?_
   refine s0 (rd_field_pt' (off := 0) rfl Try.underlying37 rfl info25 rfl (l' := [(Sl Kf r27.1), (Vi r27.2.1), (Vi r27.2.2.1), (Vi r27.2.2.2.1), (Sl Kf r27.2.2.2.2.1), (Sl Kf r27.2.2.2.2.2)]) rfl) ?_
   refine s0 (rd_load_pt' rfl rfl flat25) ?_
   refine sx_ox' (ox_rowlit' (K := (Kl Kf)) (xs := [r27.1]) (qs := [(0, [(Sl Kf r27.1)])]) ⟨rfl, ⟨_, rfl, (lv_sl _ _)⟩, trivial⟩ Try.underlying22 info25 rfl rfl rfl rfl rfl (by kernel_rfl) rfl rfl rfl) (wt_none' rfl) fun g30 => ?_
   obtain ⟨r31, hr31, hp⟩ := bind_some hp
   refine sx_ox' (ox_append' (K := (Kl Kf)) (i := 1) (xs := x1) (ys := ([r27.1])) rfl rfl rfl (sr_row' (j := 0) rfl rfl rfl Try.underlying22) hr31 Try.underlying22 info25 rfl rfl rfl (H' := [(Rw (Kl Kf) 25 (Vs g30) ([r27.1]))]) rfl) (wt_none' rfl) fun g31 => ?_
   refine s0 (rd_assign' rfl) ?_
   refine nk hK12 ?_
   refine cx_region' ?_
   refine s0 (rd_bin' rfl rfl eg_int ru_add) ?_
   refine s0 (rd_move' rfl) ?_
   refine sx_nil' ?_
   show TX E (KY1 _) _
   exact tx_pick' [0] (sub_cons rfl (sub_cons rfl (sub_cons rfl (sub_cons rfl (sub_cons rfl sub_nil))))) (by decide) (pick_cons rfl pick_nil) (ih1 (r31, (iadd .i64 x2 1)) g31 _ hp)
  replace hp := (br_f h3).symm.trans hp
  refine cx_exit' ?_
  replace hp := Option.some.inj hp
  subst hp
  show TX E (Zg E (Exit.exit 0) _ (Exit.exit 0)) _
  exact tx_zend' g901 rfl [0] (sub_cons rfl sub_nil) (by decide) (pick_cons rfl pick_nil)
 refine zg_out fun w2 => ?_
 show TX E K4 _
 refine tx_k' hK4 ?_
 refine cr fun K14 hK14 => ?_
 refine s0 (rd_move' rfl) ?_
 refine s0 (rd_assign' rfl) ?_
 refine nk hK14 ?_
 refine cx_retc' ?_
 replace hp := Option.some.inj hp
 subst hp
 refine tx_fz' (frz_row 0 [(5, (Vl (Vs w2)), (Sl (Kl Kf) v2)), (33, (Vl (Vs w2)), (Sl (Kl Kf) v2)), (4, (Vl (Vs w2)), (Sl (Kl Kf) v2))] (K := (Kl Kf)) (xs := v2) (by decide) rfl ⟨⟨rfl, frz_it⟩, ⟨rfl, frz_it⟩, ⟨rfl, frz_it⟩, trivial⟩ (H' := []) frzH_refl) ?_
 refine tx_pick' (L' := [(4, (Sl (Kl Kf) v2))]) (H' := []) [] (sub_cons rfl sub_nil) (by decide) pick_nil ?_
 exact tx_ret1' Try.results12 rfl () (rv_tmp' rfl) (List.Sublist.refl _)

def spec_IsK_j4 (k : Nat) (rec1 : Int → Option (Unit ⊕ Unit)) (x5 : Int) (x4 : Bool) : Option (Unit ⊕ Unit) :=
 br x4
  (some (.inl ()))
  (rec1 (iadd .i64 x5 1))
def spec_IsK_j3 (k : Nat) (rec1 : Int → Option (Unit ⊕ Unit)) (x5 : Int) (a2 : Int) (r37 : (List Nat) × Int × Int × Int × (List Nat) × (List Nat)) (x3 : Bool) : Option (Unit ⊕ Unit) :=
 br x3
  (spec_IsK_j4 k rec1 x5 true)
  (spec_IsK_j4 k rec1 x5 (decide (a2 ≤ r37.2.1)))
def spec_IsK_l1s (r23 : (List Int) × (List Int) × Bool) (a0 : List ((List Nat) × Int × Int × Int × (List Nat) × (List Nat))) (a2 : Int) (k : Nat) (rec1 : Int → Option (Unit ⊕ Unit)) (x5 : Int) : Option (Unit ⊕ Unit) :=
 br (decide (x5 < (r23.1.length : Int)))
  ((idx r23.1 x5) >>= fun r33 =>
  (idx a0 r33) >>= fun r37 =>
  br (!decide ((r37.1.length : Int) = a2))
   (spec_IsK_j3 k rec1 x5 a2 r37 true)
   (spec_IsK_j3 k rec1 x5 a2 r37 (decide (r37.2.1 < 0))))
  (some (.inr ()))
def spec_IsK_l1 (r23 : (List Int) × (List Int) × Bool) (a0 : List ((List Nat) × Int × Int × Int × (List Nat) × (List Nat))) (a2 : Int) : Nat → Int → Option (Unit ⊕ Unit)
 | 0, _ => none
 | k + 1, v => spec_IsK_l1s r23 a0 a2 k (spec_IsK_l1 r23 a0 a2 k) v
def spec_IsK_l4s (r69 : (List (List Nat))) (r64 : (List Nat) × Int × Int × Int × (List Nat) × (List Nat)) (k : Nat) (rec4 : Int → Option (Unit ⊕ Unit)) (x8 : Int) : Option (Unit ⊕ Unit) :=
 br (decide (x8 < (r69.length : Int)))
  ((idx r69 x8) >>= fun r73 =>
  (idx r73 r64.2.1) >>= fun r78 =>
  (idx r64.1 r64.2.1) >>= fun r84 =>
  br (!(fle r78 r84))
   (some (.inl ()))
   (rec4 (iadd .i64 x8 1)))
  (some (.inr ()))
def spec_IsK_l4 (r69 : (List (List Nat))) (r64 : (List Nat) × Int × Int × Int × (List Nat) × (List Nat)) : Nat → Int → Option (Unit ⊕ Unit)
 | 0, _ => none
 | k + 1, v => spec_IsK_l4s r69 r64 k (spec_IsK_l4 r69 r64 k) v
def spec_IsK_l5s (r92 : (List (List Nat))) (r64 : (List Nat) × Int × Int × Int × (List Nat) × (List Nat)) (k : Nat) (rec5 : Int → Option (Unit ⊕ Unit)) (x9 : Int) : Option (Unit ⊕ Unit) :=
 br (decide (x9 < (r92.length : Int)))
  ((idx r92 x9) >>= fun r96 =>
  (idx r96 r64.2.1) >>= fun r101 =>
  (idx r64.1 r64.2.1) >>= fun r107 =>
  br (!(fge r101 r107))
   (some (.inl ()))
   (rec5 (iadd .i64 x9 1)))
  (some (.inr ()))
def spec_IsK_l5 (r92 : (List (List Nat))) (r64 : (List Nat) × Int × Int × Int × (List Nat) × (List Nat)) : Nat → Int → Option (Unit ⊕ Unit)
 | 0, _ => none
 | k + 1, v => spec_IsK_l5s r92 r64 k (spec_IsK_l5 r92 r64 k) v
def spec_IsK_l6s (r23 : (List Int) × (List Int) × Bool) (a0 : List ((List Nat) × Int × Int × Int × (List Nat) × (List Nat))) (k : Nat) (rec6 : Int → Option (Unit ⊕ Unit)) (x10 : Int) : Option (Unit ⊕ Unit) :=
 br (decide (x10 < (r23.1.length : Int)))
  ((idx r23.1 x10) >>= fun r60 =>
  (idx a0 r60) >>= fun r64 =>
  (spec_KPoints k a0 r64.2.2.1) >>= fun r69 =>
  (spec_IsK_l4 r69 r64 k 0) >>= fun y4 => match y4 with
   | (.inl v16) =>
    (some (.inl ()))
   | (.inr v17) =>
    ((spec_KPoints k a0 r64.2.2.2.1) >>= fun r92 =>
    (spec_IsK_l5 r92 r64 k 0) >>= fun y5 => match y5 with
     | (.inl v19) =>
      (some (.inl ()))
     | (.inr v20) =>
      (rec6 (iadd .i64 x10 1))))
  (some (.inr ()))
def spec_IsK_l6 (r23 : (List Int) × (List Int) × Bool) (a0 : List ((List Nat) × Int × Int × Int × (List Nat) × (List Nat))) : Nat → Int → Option (Unit ⊕ Unit)
 | 0, _ => none
 | k + 1, v => spec_IsK_l6s r23 a0 k (spec_IsK_l6 r23 a0 k) v
def spec_IsK (k : Nat) (a0 : List ((List Nat) × Int × Int × Int × (List Nat) × (List Nat))) (a1 : Int) (a2 : Int) : Option (Bool) :=
 (spec_KWalk k a0 a1) >>= fun r23 =>
 br (!r23.2.2)
  (some false)
  ((spec_IsK_l1 r23 a0 a2 k 0) >>= fun y1 => match y1 with
   | (.inl v6) =>
    (some false)
   | (.inr v7) =>
    ((spec_IsK_l6 r23 a0 k 0) >>= fun y6 => match y6 with
     | (.inl v21) =>
      (some false)
     | (.inr v22) =>
      (some true)))

theorem spec_IsK_sim {k : Nat}  (a0 : List ((List Nat) × Int × Int × Int × (List Nat) × (List Nat))) (a1 : Int) (a2 : Int) {out : Bool} (hp : spec_IsK k a0 a1 a2 = some out) : Sx.Fn Try.prog 10 [(Sl KT37 a0), (Vi a1), (Vi a2)] [] (fun w : Unit => (Vb out)) (fun w => []) := by
 unfold spec_IsK at hp
 refine fn_of Try.func10 rfl Try.ntmps10 rfl fun E hM => ?_
 refine cr fun K1 hK1 => ?_
 refine s0 (rd_assign' rfl) ?_
 refine nk hK1 ?_
 refine cr fun K2 hK2 => ?_
 refine s0 (rd_move' rfl) ?_
 refine s0 (rd_move' rfl) ?_
 obtain ⟨r23, hr23, hp⟩ := bind_some hp
 refine sx_ox' (ox_calln' (ent_fn' Try.func14 isn14 rfl rfl) (spec_KWalk_sim _ _ hr23 : Sx.Fn Try.prog 14 [(Sl KT37 a0), (Vi a1)] [] (fun x : Unit => (Tu [(Sl (Ki .i64) r23.1), (Sl (Ki .i64) r23.2.1), (Vb r23.2.2)])) (fun x => [])) (Hn := fun x : Unit => []) (fun _ => rfl) rfl rfl) (wt_none' rfl) fun ⟨⟩ => ?_
 refine s0 (rd_move' rfl) ?_
 refine s0 (rd_extract' rfl rfl) ?_
 refine s0 (rd_extract' rfl rfl) ?_
 refine s0 (rd_extract' rfl rfl) ?_
 refine s0 (rd_assign' rfl) ?_
 refine s0 (rd_assign' rfl) ?_
 refine s0 (rd_assign' rfl) ?_
 refine nk hK2 ?_
 refine cx_seq' fun K3 hK3 => ?_
 refine cr fun K4 hK4 => ?_
 refine s0 (rd_move' rfl) ?_
 refine s0 (rd_un' rfl ru_not) ?_
 refine nk hK4 ?_
 refine cx_cond' rfl (fun h1 => ?_) (fun h1 => ?_)
 ·replace hp := (br_t h1).symm.trans hp
  refine cr fun K5 hK5 => ?_
  refine s0 (rd_assign' rfl) ?_
  refine nk hK5 ?_
  refine cx_retc' ?_
  replace hp := Option.some.inj hp
  subst hp
  refine tx_pick' (L' := [(6, (Vb false))]) (H' := []) [] (sub_cons rfl sub_nil) (by decide) pick_nil ?_
  exact tx_ret1' Try.results10 rfl () (rv_tmp' rfl) (List.Sublist.refl _)
 replace hp := (br_f h1).symm.trans hp
 refine cx_skip' ?_
 show TX E K3 _
 refine tx_k' hK3 ?_
 refine cx_seq' fun K6 hK6 => ?_
 refine cr fun K7 hK7 => ?_
 refine s0 (rd_move' rfl) ?_
 refine s0 (rd_len' rfl Try.underlying33) ?_
 refine s0 (rd_move' rfl) ?_
 refine nk hK7 ?_
 refine cx_block' ?_
 obtain ⟨y1, hy1, hp⟩ := bind_some hp
 refine cx_loopg' (F := spec_IsK_l1 r23 a0 a2) (G := fun k R v => spec_IsK_l1s r23 a0 a2 k R v) (x := 0) (gh := ()) (fun (v3 : Int) (w3 : Unit) => (⟨113, [], [(0, (Sl KT37 a0)), (2, (Vi a2)), (7, (Sl (Ki .i64) r23.1)), (29, (Sl (Ki .i64) r23.1)), (30, (Vi (r23.1.length : Int))), (31, (Vi v3))], []⟩ : St)) (fun (y : Unit ⊕ Unit) => match y with | (.inl v6) => Zg E Exit.ret (fun (w6 : Unit) => (⟨113, [], [(6, (Vb false))], []⟩ : St)) | (.inr v7) => Zg E (Exit.exit 0) (fun (w7 : Unit) => (⟨113, [], [(0, (Sl KT37 a0)), (7, (Sl (Ki .i64) r23.1))], []⟩ : St))) (fun _ => rfl) (fun _ _ => rfl) ?_ hy1 (tx_to' rfl [] (sub_cons rfl (sub_cons rfl (sub_cons rfl (sub_cons rfl (sub_cons rfl (sub_cons rfl sub_nil)))))) (by decide) pick_nil) ?_
 ·clear hp hy1
  clear y1
  intro k rec1 KY1 ih1
  rintro x5 ⟨⟩ y1 hp
  replace hp : spec_IsK_l1s r23 a0 a2 k rec1 x5 = some y1 := hp
  unfold spec_IsK_l1s at hp
  refine cr fun K17 hK17 => ?_
  refine s0 (rd_bin' rfl rfl eg_int ru_lss) ?_
  refine nk hK17 ?_
  refine cx_seq' fun K18 hK18 => ?_
  refine cx_cond' rfl (fun h7 => ?_) (fun h7 => ?_)
  ·replace hp := (br_t h7).symm.trans hp
   refine cx_skip' ?_
   show TX E K18 _
   refine tx_k' hK18 ?_
   refine cx_seq' fun K19 hK19 => ?_
   refine cx_block' ?_
   refine cr fun K20 hK20 => ?_
   obtain ⟨r33, hr33, hp⟩ := bind_some hp
   refine s0 (rd_at' (K := (Ki .i64)) rfl rfl hr33 Try.underlying33 info3) ?_
   refine s0 (rd_load_pt' rfl rfl flat3) ?_
   refine s0 (rd_assign' rfl) ?_
   refine nk hK20 ?_
   refine cr fun K21 hK21 => ?_
   refine s0 (rd_move' rfl) ?_
   refine s0 (rd_move' rfl) ?_
   obtain ⟨r37, hr37, hp⟩ := bind_some hp
   refine s0 (rd_at' (K := KT37) rfl rfl hr37 Try.underlying26 info37) ?_
   refine s0 (rd_load_pt_agg' (nn := 6) rfl rfl agg37 (l' := [(Sl Kf r37.1), (Vi r37.2.1), (Vi r37.2.2.1), (Vi r37.2.2.2.1), (Sl Kf r37.2.2.2.2.1), (Sl Kf r37.2.2.2.2.2)]) rfl) ?_
   refine sx_ox' (ox_alloc' info37 rfl rfl rfl rfl (l := [Vn, (Vi 0), (Vi 0), (Vi 0), Vn, Vn]) rfl) (wt_none' rfl) fun q12 => ?_
   refine sx_ox' (ox_store' (i := 0) (o := 0) rfl rfl (lv_ag _) ⟨rfl, rfl, rfl, rfl⟩ rfl info37 rfl (H' := [⟨.pointer (some q12), [(Sl Kf r37.1), (Vi r37.2.1), (Vi r37.2.2.1), (Vi r37.2.2.2.1), (Sl Kf r37.2.2.2.2.1), (Sl Kf r37.2.2.2.2.2)], 37, none⟩]) rfl) (wt_none' rfl) fun _ => ?_
   refine nk hK21 ?_
   refine cr fun K22 hK22 => ?_
   refine s0 (rd_field0' rfl Try.underlying37 rfl info25 rfl) ?_
   refine s0 (rd_load' (i := 0) (o := 0) rfl ⟨rfl, rfl, rfl, rfl⟩ rfl flat25) ?_
   refine s0 (rd_len' rfl Try.underlying25) ?_
   refine s0 (rd_move' rfl) ?_
   refine s0 (rd_bin' rfl rfl eg_int ru_neq) ?_
   refine s0 (rd_move' rfl) ?_
   refine sx_cutn' 4 (fun (v4 : Bool) => (⟨113, [], [(0, (Sl KT37 a0)), (2, (Vi a2)), (7, (Sl (Ki .i64) r23.1)), (12, (Vp q12)), (29, (Sl (Ki .i64) r23.1)), (30, (Vi (r23.1.length : Int))), (31, (Vi x5)), (48, (Vb v4))], [⟨.pointer (some q12), [(Sl Kf r37.1), (Vi r37.2.1), (Vi r37.2.2.1), (Vi r37.2.2.2.1), (Sl Kf r37.2.2.2.2.1), (Sl Kf r37.2.2.2.2.2)], 37, none⟩]⟩ : St)) (fun (v4 : Bool) => spec_IsK_j3 k rec1 x5 a2 r37 v4 = some y1) ?_ ?_
   ·rintro x3 hp
    replace hp : spec_IsK_j3 k rec1 x5 a2 r37 x3 = some y1 := hp
    unfold spec_IsK_j3 at hp
    refine s0 (rd_move' rfl) ?_
    refine sx_cutn' 5 (fun (v5 : Bool) => (⟨113, [], [(0, (Sl KT37 a0)), (2, (Vi a2)), (7, (Sl (Ki .i64) r23.1)), (29, (Sl (Ki .i64) r23.1)), (30, (Vi (r23.1.length : Int))), (31, (Vi x5)), (54, (Vb v5))], []⟩ : St)) (fun (v5 : Bool) => spec_IsK_j4 k rec1 x5 v5 = some y1) ?_ ?_
    ·rintro x4 hp
     replace hp : spec_IsK_j4 k rec1 x5 x4 = some y1 := hp
     unfold spec_IsK_j4 at hp
     refine nk hK22 ?_
     refine cx_cond' rfl (fun h10 => ?_) (fun h10 => ?_)
     ·replace hp := (br_t h10).symm.trans hp
      refine cr fun K25 hK25 => ?_
      refine s0 (rd_assign' rfl) ?_
      refine nk hK25 ?_
      refine cx_retc' ?_
      replace hp := Option.some.inj hp
      subst hp
      show TX E (Zg E Exit.ret _ Exit.ret) _
      exact tx_zend' () rfl [] (sub_cons rfl sub_nil) (by decide) pick_nil
     replace hp := (br_f h10).symm.trans hp
     refine cx_skip' ?_
     show TX E K19 _
     refine tx_k' hK19 ?_
     refine cx_region' ?_
     refine s0 (rd_bin' rfl rfl eg_int ru_add) ?_
     refine s0 (rd_move' rfl) ?_
     refine sx_nil' ?_
     show TX E (KY1 _) _
     exact tx_pick' [] (sub_cons rfl (sub_cons rfl (sub_cons rfl (sub_cons rfl (sub_cons rfl (sub_cons rfl sub_nil)))))) (by decide) pick_nil (ih1 (iadd .i64 x5 1) () _ hp)
    intro K24 hK24
    rcases br_cases hp with ⟨h9, hp⟩ | ⟨h9, hp⟩
    ·refine sx_skip' rfl rfl (wt_is' (wt_guard' rfl rfl rfl) (beq_tf h9)) ?_
     refine sx_skip' rfl rfl (wt_is' (wt_guard' rfl rfl rfl) (beq_tf h9)) ?_
     refine sx_skip' rfl rfl (wt_is' (wt_guard' rfl rfl rfl) (beq_tf h9)) ?_
     refine sx_skip' rfl rfl (wt_is' (wt_guard' rfl rfl rfl) (beq_tf h9)) ?_
     refine s0 (rd_pick_true' rfl h9 rfl) ?_
     refine sx_nil' ?_
     show TX E K24 _
     exact tx_pick' [] (sub_cons rfl (sub_cons rfl (sub_cons rfl (sub_cons rfl (sub_cons rfl (sub_cons rfl (sub_cons rfl sub_nil))))))) (by decide) pick_nil (hK24 true hp)
    refine sx_rd' (rd_field' (off := 1) rfl Try.underlying37 rfl info3 rfl) rfl rfl (wt_is' (wt_guard' rfl rfl rfl) (beq_ff h9)) ?_
    refine sx_rd' (rd_load' (i := 0) (o := 1) rfl ⟨rfl, rfl, rfl, rfl⟩ rfl flat3) rfl rfl (wt_is' (wt_guard' rfl rfl rfl) (beq_ff h9)) ?_
    refine sx_rd' (rd_move' rfl) rfl rfl (wt_is' (wt_guard' rfl rfl rfl) (beq_ff h9)) ?_
    refine sx_rd' (rd_bin' rfl rfl eg_int ru_geq) rfl rfl (wt_is' (wt_guard' rfl rfl rfl) (beq_ff h9)) ?_
    refine s0 (rd_pick_false' rfl h9 rfl) ?_
    refine sx_nil' ?_
    show TX E K24 _
    exact tx_pick' [] (sub_cons rfl (sub_cons rfl (sub_cons rfl (sub_cons rfl (sub_cons rfl (sub_cons rfl (sub_cons rfl sub_nil))))))) (by decide) pick_nil (hK24 (decide (a2 ≤ r37.2.1)) hp)
   intro K23 hK23
   rcases br_cases hp with ⟨h8, hp⟩ | ⟨h8, hp⟩
   ·refine sx_skip' rfl rfl (wt_is' (wt_guard' rfl rfl rfl) (beq_tf h8)) ?_
    refine sx_skip' rfl rfl (wt_is' (wt_guard' rfl rfl rfl) (beq_tf h8)) ?_
    refine sx_skip' rfl rfl (wt_is' (wt_guard' rfl rfl rfl) (beq_tf h8)) ?_
    refine s0 (rd_pick_true' rfl h8 rfl) ?_
    refine sx_nil' ?_
    show TX E K23 _
    exact tx_pick' [0] (sub_cons rfl (sub_cons rfl (sub_cons rfl (sub_cons rfl (sub_cons rfl (sub_cons rfl (sub_cons rfl (sub_cons rfl sub_nil)))))))) (by decide) (pick_cons rfl pick_nil) (hK23 true hp)
   refine sx_rd' (rd_field' (off := 1) rfl Try.underlying37 rfl info3 rfl) rfl rfl (wt_is' (wt_guard' rfl rfl rfl) (beq_ff h8)) ?_
   refine sx_rd' (rd_load' (i := 0) (o := 1) rfl ⟨rfl, rfl, rfl, rfl⟩ rfl flat3) rfl rfl (wt_is' (wt_guard' rfl rfl rfl) (beq_ff h8)) ?_
   refine sx_rd' (rd_bin' rfl rfl eg_int ru_lss) rfl rfl (wt_is' (wt_guard' rfl rfl rfl) (beq_ff h8)) ?_
   refine s0 (rd_pick_false' rfl h8 rfl) ?_
   refine sx_nil' ?_
   show TX E K23 _
   exact tx_pick' [0] (sub_cons rfl (sub_cons rfl (sub_cons rfl (sub_cons rfl (sub_cons rfl (sub_cons rfl (sub_cons rfl (sub_cons rfl sub_nil)))))))) (by decide) (pick_cons rfl pick_nil) (hK23 (decide (r37.2.1 < 0)) hp)
  replace hp := (br_f h7).symm.trans hp
  refine cx_exit' ?_
  replace hp := Option.some.inj hp
  subst hp
  show TX E (Zg E (Exit.exit 0) _ (Exit.exit 0)) _
  exact tx_zend' () rfl [] (sub_cons rfl (sub_cons rfl sub_nil)) (by decide) pick_nil
 rcases y1 with v6 | v7
 ·dsimp only at hp
  refine zg_out fun w6 => ?_
  replace hp := Option.some.inj hp
  subst hp
  refine tx_pick' (L' := [(6, (Vb false))]) (H' := []) [] (sub_cons rfl sub_nil) (by decide) pick_nil ?_
  exact tx_ret1' Try.results10 rfl () (rv_tmp' rfl) (List.Sublist.refl _)
 dsimp only at hp
 refine zg_out fun w7 => ?_
 show TX E K6 _
 refine tx_k' hK6 ?_
 refine cx_seq' fun K26 hK26 => ?_
 refine cr fun K27 hK27 => ?_
 refine s0 (rd_move' rfl) ?_
 refine s0 (rd_len' rfl Try.underlying33) ?_
 refine s0 (rd_move' rfl) ?_
 refine nk hK27 ?_
 refine cx_block' ?_
 obtain ⟨y6, hy6, hp⟩ := bind_some hp
 refine cx_loopg' (F := spec_IsK_l6 r23 a0) (G := fun k R v => spec_IsK_l6s r23 a0 k R v) (x := 0) (gh := ()) (fun (v14 : Int) (w14 : Unit) => (⟨113, [], [(0, (Sl KT37 a0)), (56, (Sl (Ki .i64) r23.1)), (57, (Vi (r23.1.length : Int))), (58, (Vi v14))], []⟩ : St)) (fun (y : Unit ⊕ Unit) => match y with | (.inl v21) => Zg E Exit.ret (fun (w21 : Unit) => (⟨113, [], [(6, (Vb false))], []⟩ : St)) | (.inr v22) => Zg E (Exit.exit 2) (fun (w22 : Unit) => (⟨113, [], [], []⟩ : St))) (fun _ => rfl) (fun _ _ => rfl) ?_ hy6 (tx_to' rfl [] (sub_cons rfl (sub_cons rfl (sub_cons rfl (sub_cons rfl sub_nil)))) (by decide) pick_nil) ?_
 ·clear hp hy6
  clear y6
  intro k rec6 KY6 ih6
  rintro x10 ⟨⟩ y6 hp
  replace hp : spec_IsK_l6s r23 a0 k rec6 x10 = some y6 := hp
  unfold spec_IsK_l6s at hp
  refine cr fun K60 hK60 => ?_
  refine s0 (rd_bin' rfl rfl eg_int ru_lss) ?_
  refine nk hK60 ?_
  refine cx_seq' fun K61 hK61 => ?_
  refine cx_cond' rfl (fun h23 => ?_) (fun h23 => ?_)
  ·replace hp := (br_t h23).symm.trans hp
   refine cx_skip' ?_
   show TX E K61 _
   refine tx_k' hK61 ?_
   refine cx_seq' fun K62 hK62 => ?_
   refine cx_block' ?_
   refine cr fun K63 hK63 => ?_
   obtain ⟨r60, hr60, hp⟩ := bind_some hp
   refine s0 (rd_at' (K := (Ki .i64)) rfl rfl hr60 Try.underlying33 info3) ?_
   refine s0 (rd_load_pt' rfl rfl flat3) ?_
   refine s0 (rd_assign' rfl) ?_
   refine nk hK63 ?_
   refine cr fun K64 hK64 => ?_
   refine s0 (rd_move' rfl) ?_
   refine s0 (rd_move' rfl) ?_
   obtain ⟨r64, hr64, hp⟩ := bind_some hp
   refine s0 (rd_at' (K := KT37) rfl rfl hr64 Try.underlying26 info37) ?_
   refine s0 (rd_load_pt_agg' (nn := 6) rfl rfl agg37 (l' := [(Sl Kf r64.1), (Vi r64.2.1), (Vi r64.2.2.1), (Vi r64.2.2.2.1), (Sl Kf r64.2.2.2.2.1), (Sl Kf r64.2.2.2.2.2)]) rfl) ?_
   refine sx_ox' (ox_alloc' info37 rfl rfl rfl rfl (l := [Vn, (Vi 0), (Vi 0), (Vi 0), Vn, Vn]) rfl) (wt_none' rfl) fun q15 => ?_
   refine sx_ox' (ox_store' (i := 0) (o := 0) rfl rfl (lv_ag _) ⟨rfl, rfl, rfl, rfl⟩ rfl info37 rfl (H' := [⟨.pointer (some q15), [(Sl Kf r64.1), (Vi r64.2.1), (Vi r64.2.2.1), (Vi r64.2.2.2.1), (Sl Kf r64.2.2.2.2.1), (Sl Kf r64.2.2.2.2.2)], 37, none⟩]) rfl) (wt_none' rfl) fun _ => ?_
   refine nk hK64 ?_
   refine cx_seq' fun K65 hK65 => ?_
   refine cr fun K66 hK66 => ?_
   refine s0 (rd_move' rfl) ?_
   refine s0 (rd_field' (off := 2) rfl Try.underlying37 rfl info3 rfl) ?_
   refine s0 (rd_load' (i := 0) (o := 2) rfl ⟨rfl, rfl, rfl, rfl⟩ rfl flat3) ?_
   obtain ⟨r69, hr69, hp⟩ := bind_some hp
   refine sx_ox' (ox_calln' (ent_fn' Try.func12 isn12 rfl rfl) (spec_KPoints_sim _ _ hr69 : Sx.Fn Try.prog 12 [(Sl KT37 a0), (Vi r64.2.2.1)] [] (fun x : Unit => (Sl (Kl Kf) r69)) (fun x => [])) (Hn := fun x : Unit => [⟨.pointer (some q15), [(Sl Kf r64.1), (Vi r64.2.1), (Vi r64.2.2.1), (Vi r64.2.2.2.1), (Sl Kf r64.2.2.2.2.1), (Sl Kf r64.2.2.2.2.2)], 37, none⟩]) (fun _ => rfl) rfl rfl) (wt_none' rfl) fun ⟨⟩ => ?_
   refine s0 (rd_len' rfl Try.underlying22) ?_
   refine s0 (rd_move' rfl) ?_
   refine nk hK66 ?_
   refine cx_block' ?_
   obtain ⟨y4, hy4, hp⟩ := bind_some hp
   refine cx_loopg' (F := spec_IsK_l4 r69 r64) (G := fun k R v => spec_IsK_l4s r69 r64 k R v) (x := 0) (gh := ()) (fun (v15 : Int) (w15 : Unit) => (⟨113, [], [(0, (Sl KT37 a0)), (15, (Vp q15)), (56, (Sl (Ki .i64) r23.1)), (57, (Vi (r23.1.length : Int))), (58, (Vi x10)), (69, (Sl (Kl Kf) r69)), (70, (Vi (r69.length : Int))), (71, (Vi v15))], [⟨.pointer (some q15), [(Sl Kf r64.1), (Vi r64.2.1), (Vi r64.2.2.1), (Vi r64.2.2.2.1), (Sl Kf r64.2.2.2.2.1), (Sl Kf r64.2.2.2.2.2)], 37, none⟩]⟩ : St)) (fun (y : Unit ⊕ Unit) => match y with | (.inl v16) => Zg E Exit.ret (fun (w16 : Unit) => (⟨113, [], [(6, (Vb false))], []⟩ : St)) | (.inr v17) => Zg E (Exit.exit 4) (fun (w17 : Unit) => (⟨113, [], [(0, (Sl KT37 a0)), (15, (Vp q15)), (56, (Sl (Ki .i64) r23.1)), (57, (Vi (r23.1.length : Int))), (58, (Vi x10))], [⟨.pointer (some q15), [(Sl Kf r64.1), (Vi r64.2.1), (Vi r64.2.2.1), (Vi r64.2.2.2.1), (Sl Kf r64.2.2.2.2.1), (Sl Kf r64.2.2.2.2.2)], 37, none⟩]⟩ : St))) (fun _ => rfl) (fun _ _ => rfl) ?_ hy4 (tx_to' rfl [0] (sub_cons rfl (sub_cons rfl (sub_cons rfl (sub_cons rfl (sub_cons rfl (sub_cons rfl (sub_cons rfl (sub_cons rfl sub_nil)))))))) (by decide) (pick_cons rfl pick_nil)) ?_
   ·clear hp hy4
    clear y4
    intro k rec4 KY4 ih4
    rintro x8 ⟨⟩ y4 hp
    replace hp : spec_IsK_l4s r69 r64 k rec4 x8 = some y4 := hp
    unfold spec_IsK_l4s at hp
    refine cr fun K73 hK73 => ?_
    refine s0 (rd_bin' rfl rfl eg_int ru_lss) ?_
    refine nk hK73 ?_
    refine cx_seq' fun K74 hK74 => ?_
    refine cx_cond' rfl (fun h27 => ?_) (fun h27 => ?_)
    ·replace hp := (br_t h27).symm.trans hp
     refine cx_skip' ?_
     show TX E K74 _
     refine tx_k' hK74 ?_
     refine cx_seq' fun K75 hK75 => ?_
     refine cx_block' ?_
     refine cr fun K76 hK76 => ?_
     obtain ⟨r73, hr73, hp⟩ := bind_some hp
     refine s0 (rd_at' (K := (Kl Kf)) rfl rfl hr73 Try.underlying22 info25) ?_
     refine s0 (rd_load_pt' rfl rfl flat25) ?_
     refine s0 (rd_assign' rfl) ?_
     refine nk hK76 ?_
     refine cx_seq' fun K77 hK77 => ?_
     refine cx_draw' mixed (by kernel_rfl) ?_
     refine qx_rd' (rd_move' rfl) rfl rfl (wt_none' rfl) ?_
     refine qx_rd' (rd_field' (off := 1) rfl Try.underlying37 rfl info3 rfl) rfl rfl (wt_none' rfl) ?_
     refine qx_rd' (rd_load' (i := 0) (o := 1) rfl ⟨rfl, rfl, rfl, rfl⟩ rfl flat3) rfl rfl (wt_none' rfl) ?_
     obtain ⟨r78, hr78, hp⟩ := bind_some hp
     refine qx_rd' (rd_at' (K := Kf) rfl rfl hr78 Try.underlying25 info40) rfl rfl (wt_none' rfl) ?_
     refine qx_rd' (rd_load_pt' rfl rfl flat40) rfl rfl (wt_none' rfl) ?_
     refine qx_rd' (rd_field0' rfl Try.underlying37 rfl info25 rfl) rfl rfl (wt_none' rfl) ?_
     refine qx_rd' (rd_load' (i := 0) (o := 0) rfl ⟨rfl, rfl, rfl, rfl⟩ rfl flat25) rfl rfl (wt_none' rfl) ?_
     refine qx_rd' (rd_field' (off := 1) rfl Try.underlying37 rfl info3 rfl) rfl rfl (wt_none' rfl) ?_
     refine qx_rd' (rd_load' (i := 0) (o := 1) rfl ⟨rfl, rfl, rfl, rfl⟩ rfl flat3) rfl rfl (wt_none' rfl) ?_
     obtain ⟨r84, hr84, hp⟩ := bind_some hp
     refine qx_rd' (rd_at' (K := Kf) rfl rfl hr84 Try.underlying25 info40) rfl rfl (wt_none' rfl) ?_
     refine qx_rd' (rd_load_pt' rfl rfl flat40) rfl rfl (wt_none' rfl) ?_
     refine qx_rd' (rd_bin' rfl rfl eg_flt ru_fle) rfl rfl (wt_none' rfl) ?_
     refine qx_rd' (rd_un' rfl ru_not) rfl rfl (wt_none' rfl) ?_
     refine qx_nil' ?_
     show TX E K77 _
     refine tx_k' hK77 ?_
     refine cx_cond' rfl (fun h28 => ?_) (fun h28 => ?_)
     ·replace hp := (br_t h28).symm.trans hp
      refine cr fun K78 hK78 => ?_
      refine s0 (rd_assign' rfl) ?_
      refine nk hK78 ?_
      refine cx_retc' ?_
      replace hp := Option.some.inj hp
      subst hp
      show TX E (Zg E Exit.ret _ Exit.ret) _
      exact tx_zend' () rfl [] (sub_cons rfl sub_nil) (by decide) pick_nil
     replace hp := (br_f h28).symm.trans hp
     refine cx_skip' ?_
     show TX E K75 _
     refine tx_k' hK75 ?_
     refine cx_region' ?_
     refine s0 (rd_bin' rfl rfl eg_int ru_add) ?_
     refine s0 (rd_move' rfl) ?_
     refine sx_nil' ?_
     show TX E (KY4 _) _
     exact tx_pick' [0] (sub_cons rfl (sub_cons rfl (sub_cons rfl (sub_cons rfl (sub_cons rfl (sub_cons rfl (sub_cons rfl (sub_cons rfl sub_nil)))))))) (by decide) (pick_cons rfl pick_nil) (ih4 (iadd .i64 x8 1) () _ hp)
    replace hp := (br_f h27).symm.trans hp
    refine cx_exit' ?_
    replace hp := Option.some.inj hp
    subst hp
    show TX E (Zg E (Exit.exit 4) _ (Exit.exit 4)) _
    exact tx_zend' () rfl [0] (sub_cons rfl (sub_cons rfl (sub_cons rfl (sub_cons rfl (sub_cons rfl sub_nil))))) (by decide) (pick_cons rfl pick_nil)
   rcases y4 with v16 | v17
   ·dsimp only at hp
    refine zg_out fun w16 => ?_
    replace hp := Option.some.inj hp
    subst hp
    show TX E (Zg E Exit.ret _ Exit.ret) _
    exact tx_zend' () rfl [] (sub_cons rfl sub_nil) (by decide) pick_nil
   dsimp only at hp
   refine zg_out fun w17 => ?_
   show TX E K65 _
   refine tx_k' hK65 ?_
   refine cr fun K79 hK79 => ?_
   refine s0 (rd_move' rfl) ?_
   refine s0 (rd_field' (off := 3) rfl Try.underlying37 rfl info3 rfl) ?_
   refine s0 (rd_load' (i := 0) (o := 3) rfl ⟨rfl, rfl, rfl, rfl⟩ rfl flat3) ?_
   obtain ⟨r92, hr92, hp⟩ := bind_some hp
   refine sx_ox' (ox_calln' (ent_fn' Try.func12 isn12 rfl rfl) (spec_KPoints_sim _ _ hr92 : Sx.Fn Try.prog 12 [(Sl KT37 a0), (Vi r64.2.2.2.1)] [] (fun x : Unit => (Sl (Kl Kf) r92)) (fun x => [])) (Hn := fun x : Unit => [⟨.pointer (some q15), [(Sl Kf r64.1), (Vi r64.2.1), (Vi r64.2.2.1), (Vi r64.2.2.2.1), (Sl Kf r64.2.2.2.2.1), (Sl Kf r64.2.2.2.2.2)], 37, none⟩]) (fun _ => rfl) rfl rfl) (wt_none' rfl) fun ⟨⟩ => ?_
   refine s0 (rd_len' rfl Try.underlying22) ?_
   refine s0 (rd_move' rfl) ?_
   refine nk hK79 ?_
   refine cx_block' ?_
   obtain ⟨y5, hy5, hp⟩ := bind_some hp
   refine cx_loopg' (F := spec_IsK_l5 r92 r64) (G := fun k R v => spec_IsK_l5s r92 r64 k R v) (x := 0) (gh := ()) (fun (v18 : Int) (w18 : Unit) => (⟨113, [], [(0, (Sl KT37 a0)), (15, (Vp q15)), (56, (Sl (Ki .i64) r23.1)), (57, (Vi (r23.1.length : Int))), (58, (Vi x10)), (92, (Sl (Kl Kf) r92)), (93, (Vi (r92.length : Int))), (94, (Vi v18))], [⟨.pointer (some q15), [(Sl Kf r64.1), (Vi r64.2.1), (Vi r64.2.2.1), (Vi r64.2.2.2.1), (Sl Kf r64.2.2.2.2.1), (Sl Kf r64.2.2.2.2.2)], 37, none⟩]⟩ : St)) (fun (y : Unit ⊕ Unit) => match y with | (.inl v19) => Zg E Exit.ret (fun (w19 : Unit) => (⟨113, [], [(6, (Vb false))], []⟩ : St)) | (.inr v20) => Zg E (Exit.exit 6) (fun (w20 : Unit) => (⟨113, [], [(0, (Sl KT37 a0)), (56, (Sl (Ki .i64) r23.1)), (57, (Vi (r23.1.length : Int))), (58, (Vi x10))], []⟩ : St))) (fun _ => rfl) (fun _ _ => rfl) ?_ hy5 (tx_to' rfl [0] (sub_cons rfl (sub_cons rfl (sub_cons rfl (sub_cons rfl (sub_cons rfl (sub_cons rfl (sub_cons rfl (sub_cons rfl sub_nil)))))))) (by decide) (pick_cons rfl pick_nil)) ?_
   ·clear hp hy5
    clear y5
    intro k rec5 KY5 ih5
    rintro x9 ⟨⟩ y5 hp
    replace hp : spec_IsK_l5s r92 r64 k rec5 x9 = some y5 := hp
    unfold spec_IsK_l5s at hp
    refine cr fun K86 hK86 => ?_
    refine s0 (rd_bin' rfl rfl eg_int ru_lss) ?_
    refine nk hK86 ?_
    refine cx_seq' fun K87 hK87 => ?_
    refine cx_cond' rfl (fun h32 => ?_) (fun h32 => ?_)
    ·replace hp := (br_t h32).symm.trans hp
     refine cx_skip' ?_
     show TX E K87 _
     refine tx_k' hK87 ?_
     refine cx_seq' fun K88 hK88 => ?_
     refine cx_block' ?_
     refine cr fun K89 hK89 => ?_
     obtain ⟨r96, hr96, hp⟩ := bind_some hp
     refine s0 (rd_at' (K := (Kl Kf)) rfl rfl hr96 Try.underlying22 info25) ?_
     refine s0 (rd_load_pt' rfl rfl flat25) ?_
     refine s0 (rd_assign' rfl) ?_
     refine nk hK89 ?_
     refine cx_seq' fun K90 hK90 => ?_
     refine cx_draw' mixed (by kernel_rfl) ?_
     refine qx_rd' (rd_move' rfl) rfl rfl (wt_none' rfl) ?_
     refine qx_rd' (rd_field' (off := 1) rfl Try.underlying37 rfl info3 rfl) rfl rfl (wt_none' rfl) ?_
     refine qx_rd' (rd_load' (i := 0) (o := 1) rfl ⟨rfl, rfl, rfl, rfl⟩ rfl flat3) rfl rfl (wt_none' rfl) ?_
     obtain ⟨r101, hr101, hp⟩ := bind_some hp
     refine qx_rd' (rd_at' (K := Kf) rfl rfl hr101 Try.underlying25 info40) rfl rfl (wt_none' rfl) ?_
     refine qx_rd' (rd_load_pt' rfl rfl flat40) rfl rfl (wt_none' rfl) ?_
     refine qx_rd' (rd_field0' rfl Try.underlying37 rfl info25 rfl) rfl rfl (wt_none' rfl) ?_
     refine qx_rd' (rd_load' (i := 0) (o := 0) rfl ⟨rfl, rfl, rfl, rfl⟩ rfl flat25) rfl rfl (wt_none' rfl) ?_
     refine qx_rd' (rd_field' (off := 1) rfl Try.underlying37 rfl info3 rfl) rfl rfl (wt_none' rfl) ?_
     refine qx_rd' (rd_load' (i := 0) (o := 1) rfl ⟨rfl, rfl, rfl, rfl⟩ rfl flat3) rfl rfl (wt_none' rfl) ?_
     obtain ⟨r107, hr107, hp⟩ := bind_some hp
     refine qx_rd' (rd_at' (K := Kf) rfl rfl hr107 Try.underlying25 info40) rfl rfl (wt_none' rfl) ?_
     refine qx_rd' (rd_load_pt' rfl rfl flat40) rfl rfl (wt_none' rfl) ?_
     refine qx_rd' (rd_bin' rfl rfl eg_flt ru_fge) rfl rfl (wt_none' rfl) ?_
     refine qx_rd' (rd_un' rfl ru_not) rfl rfl (wt_none' rfl) ?_
     refine qx_nil' ?_
     show TX E K90 _
     refine tx_k' hK90 ?_
     refine cx_cond' rfl (fun h33 => ?_) (fun h33 => ?_)
     ·replace hp := (br_t h33).symm.trans hp
      refine cr fun K91 hK91 => ?_
      refine s0 (rd_assign' rfl) ?_
      refine nk hK91 ?_
      refine cx_retc' ?_
      replace hp := Option.some.inj hp
      subst hp
      show TX E (Zg E Exit.ret _ Exit.ret) _
      exact tx_zend' () rfl [] (sub_cons rfl sub_nil) (by decide) pick_nil
     replace hp := (br_f h33).symm.trans hp
     refine cx_skip' ?_
     show TX E K88 _
     refine tx_k' hK88 ?_
     refine cx_region' ?_
     refine s0 (rd_bin' rfl rfl eg_int ru_add) ?_
     refine s0 (rd_move' rfl) ?_
     refine sx_nil' ?_
     show TX E (KY5 _) _
     exact tx_pick' [0] (sub_cons rfl (sub_cons rfl (sub_cons rfl (sub_cons rfl (sub_cons rfl (sub_cons rfl (sub_cons rfl (sub_cons rfl sub_nil)))))))) (by decide) (pick_cons rfl pick_nil) (ih5 (iadd .i64 x9 1) () _ hp)
    replace hp := (br_f h32).symm.trans hp
    refine cx_exit' ?_
    replace hp := Option.some.inj hp
    subst hp
    show TX E (Zg E (Exit.exit 6) _ (Exit.exit 6)) _
    exact tx_zend' () rfl [] (sub_cons rfl (sub_cons rfl (sub_cons rfl (sub_cons rfl sub_nil)))) (by decide) pick_nil
   rcases y5 with v19 | v20
   ·dsimp only at hp
    refine zg_out fun w19 => ?_
    replace hp := Option.some.inj hp
    subst hp
    show TX E (Zg E Exit.ret _ Exit.ret) _
    exact tx_zend' () rfl [] (sub_cons rfl sub_nil) (by decide) pick_nil
   dsimp only at hp
   refine zg_out fun w20 => ?_
   show TX E K62 _
   refine tx_k' hK62 ?_
   refine cx_region' ?_
   refine s0 (rd_bin' rfl rfl eg_int ru_add) ?_
   refine s0 (rd_move' rfl) ?_
   refine sx_nil' ?_
   show TX E (KY6 _) _
   exact tx_pick' [] (sub_cons rfl (sub_cons rfl (sub_cons rfl (sub_cons rfl sub_nil)))) (by decide) pick_nil (ih6 (iadd .i64 x10 1) () _ hp)
  replace hp := (br_f h23).symm.trans hp
  refine cx_exit' ?_
  replace hp := Option.some.inj hp
  subst hp
  show TX E (Zg E (Exit.exit 2) _ (Exit.exit 2)) _
  exact tx_zend' () rfl [] sub_nil (by decide) pick_nil
 rcases y6 with v21 | v22
 ·dsimp only at hp
  refine zg_out fun w21 => ?_
  replace hp := Option.some.inj hp
  subst hp
  refine tx_pick' (L' := [(6, (Vb false))]) (H' := []) [] (sub_cons rfl sub_nil) (by decide) pick_nil ?_
  exact tx_ret1' Try.results10 rfl () (rv_tmp' rfl) (List.Sublist.refl _)
 dsimp only at hp
 refine zg_out fun w22 => ?_
 show TX E K26 _
 refine tx_k' hK26 ?_
 refine cr fun K92 hK92 => ?_
 refine s0 (rd_assign' rfl) ?_
 refine nk hK92 ?_
 refine cx_retc' ?_
 replace hp := Option.some.inj hp
 subst hp
 refine tx_pick' (L' := [(6, (Vb true))]) (H' := []) [] (sub_cons rfl sub_nil) (by decide) pick_nil ?_
 exact tx_ret1' Try.results10 rfl () (rv_tmp' rfl) (List.Sublist.refl _)

def spec_SamePoint_l1s (a0 : List Nat) (a1 : List Nat) (k : Nat) (rec1 : Int → Option (Unit ⊕ Unit)) (x1 : Int) : Option (Unit ⊕ Unit) :=
 br (decide (x1 < (a0.length : Int)))
  ((idx a0 x1) >>= fun r17 =>
  (idx a1 x1) >>= fun r22 =>
  br (fne r17 r22)
   (some (.inl ()))
   (rec1 (iadd .i64 x1 1)))
  (some (.inr ()))
def spec_SamePoint_l1 (a0 : List Nat) (a1 : List Nat) : Nat → Int → Option (Unit ⊕ Unit)
 | 0, _ => none
 | k + 1, v => spec_SamePoint_l1s a0 a1 k (spec_SamePoint_l1 a0 a1 k) v
def spec_SamePoint (k : Nat) (a0 : List Nat) (a1 : List Nat) : Option (Bool) :=
 br (!decide ((a0.length : Int) = (a1.length : Int)))
  (some false)
  ((spec_SamePoint_l1 a0 a1 k 0) >>= fun y1 => match y1 with
   | (.inl v2) =>
    (some false)
   | (.inr v3) =>
    (some true))

theorem spec_SamePoint_sim {k : Nat}  (a0 : List Nat) (a1 : List Nat) {out : Bool} (hp : spec_SamePoint k a0 a1 = some out) : Sx.Fn Try.prog 34 [(Sl Kf a0), (Sl Kf a1)] [] (fun w : Unit => (Vb out)) (fun w => []) := by
 unfold spec_SamePoint at hp
 refine fn_of Try.func34 rfl Try.ntmps34 rfl fun E hM => ?_
 refine cr fun K1 hK1 => ?_
 refine s0 (rd_assign' rfl) ?_
 refine nk hK1 ?_
 refine cx_seq' fun K2 hK2 => ?_
 refine cr fun K3 hK3 => ?_
 refine s0 (rd_move' rfl) ?_
 refine s0 (rd_len' rfl Try.underlying25) ?_
 refine s0 (rd_move' rfl) ?_
 refine s0 (rd_len' rfl Try.underlying25) ?_
 refine s0 (rd_bin' rfl rfl eg_int ru_neq) ?_
 refine nk hK3 ?_
 refine cx_cond' rfl (fun h1 => ?_) (fun h1 => ?_)
 ·replace hp := (br_t h1).symm.trans hp
  refine cr fun K4 hK4 => ?_
  refine s0 (rd_assign' rfl) ?_
  refine nk hK4 ?_
  refine cx_retc' ?_
  replace hp := Option.some.inj hp
  subst hp
  refine tx_pick' (L' := [(4, (Vb false))]) (H' := []) [] (sub_cons rfl sub_nil) (by decide) pick_nil ?_
  exact tx_ret1' Try.results34 rfl () (rv_tmp' rfl) (List.Sublist.refl _)
 replace hp := (br_f h1).symm.trans hp
 refine cx_skip' ?_
 show TX E K2 _
 refine tx_k' hK2 ?_
 refine cx_seq' fun K5 hK5 => ?_
 refine cr fun K6 hK6 => ?_
 refine s0 (rd_move' rfl) ?_
 refine s0 (rd_len' rfl Try.underlying25) ?_
 refine s0 (rd_move' rfl) ?_
 refine nk hK6 ?_
 refine cx_block' ?_
 obtain ⟨y1, hy1, hp⟩ := bind_some hp
 refine cx_loopg' (F := spec_SamePoint_l1 a0 a1) (G := fun k R v => spec_SamePoint_l1s a0 a1 k R v) (x := 0) (gh := ()) (fun (v1 : Int) (w1 : Unit) => (⟨26, [], [(1, (Sl Kf a1)), (12, (Sl Kf a0)), (13, (Vi (a0.length : Int))), (14, (Vi v1))], []⟩ : St)) (fun (y : Unit ⊕ Unit) => match y with | (.inl v2) => Zg E Exit.ret (fun (w2 : Unit) => (⟨26, [], [(4, (Vb false))], []⟩ : St)) | (.inr v3) => Zg E (Exit.exit 0) (fun (w3 : Unit) => (⟨26, [], [], []⟩ : St))) (fun _ => rfl) (fun _ _ => rfl) ?_ hy1 (tx_to' rfl [] (sub_cons rfl (sub_cons rfl (sub_cons rfl (sub_cons rfl sub_nil)))) (by decide) pick_nil) ?_
 ·clear hp hy1
  clear y1
  intro k rec1 KY1 ih1
  rintro x1 ⟨⟩ y1 hp
  replace hp : spec_SamePoint_l1s a0 a1 k rec1 x1 = some y1 := hp
  unfold spec_SamePoint_l1s at hp
  refine cr fun K13 hK13 => ?_
  refine s0 (rd_bin' rfl rfl eg_int ru_lss) ?_
  refine nk hK13 ?_
  refine cx_seq' fun K14 hK14 => ?_
  refine cx_cond' rfl (fun h5 => ?_) (fun h5 => ?_)
  ·replace hp := (br_t h5).symm.trans hp
   refine cx_skip' ?_
   show TX E K14 _
   refine tx_k' hK14 ?_
   refine cx_seq' fun K15 hK15 => ?_
   refine cx_block' ?_
   refine cr fun K16 hK16 => ?_
   refine s0 (rd_move' rfl) ?_
   obtain ⟨r17, hr17, hp⟩ := bind_some hp
   refine s0 (rd_at' (K := Kf) rfl rfl hr17 Try.underlying25 info40) ?_
   refine s0 (rd_load_pt' rfl rfl flat40) ?_
   refine s0 (rd_assign' rfl) ?_
   refine s0 (rd_assign' rfl) ?_
   refine nk hK16 ?_
   refine cr fun K17 hK17 => ?_
   refine s0 (rd_move' rfl) ?_
   refine s0 (rd_move' rfl) ?_
   refine s0 (rd_move' rfl) ?_
   obtain ⟨r22, hr22, hp⟩ := bind_some hp
   refine s0 (rd_at' (K := Kf) rfl rfl hr22 Try.underlying25 info40) ?_
   refine s0 (rd_load_pt' rfl rfl flat40) ?_
   refine s0 (rd_bin' rfl rfl eg_flt ru_fne) ?_
   refine nk hK17 ?_
   refine cx_cond' rfl (fun h6 => ?_) (fun h6 => ?_)
   ·replace hp := (br_t h6).symm.trans hp
    refine cr fun K18 hK18 => ?_
    refine s0 (rd_assign' rfl) ?_
    refine nk hK18 ?_
    refine cx_retc' ?_
    replace hp := Option.some.inj hp
    subst hp
    show TX E (Zg E Exit.ret _ Exit.ret) _
    exact tx_zend' () rfl [] (sub_cons rfl sub_nil) (by decide) pick_nil
   replace hp := (br_f h6).symm.trans hp
   refine cx_skip' ?_
   show TX E K15 _
   refine tx_k' hK15 ?_
   refine cx_region' ?_
   refine s0 (rd_bin' rfl rfl eg_int ru_add) ?_
   refine s0 (rd_move' rfl) ?_
   refine sx_nil' ?_
   show TX E (KY1 _) _
   exact tx_pick' [] (sub_cons rfl (sub_cons rfl (sub_cons rfl (sub_cons rfl sub_nil)))) (by decide) pick_nil (ih1 (iadd .i64 x1 1) () _ hp)
  replace hp := (br_f h5).symm.trans hp
  refine cx_exit' ?_
  replace hp := Option.some.inj hp
  subst hp
  show TX E (Zg E (Exit.exit 0) _ (Exit.exit 0)) _
  exact tx_zend' () rfl [] sub_nil (by decide) pick_nil
 rcases y1 with v2 | v3
 ·dsimp only at hp
  refine zg_out fun w2 => ?_
  replace hp := Option.some.inj hp
  subst hp
  refine tx_pick' (L' := [(4, (Vb false))]) (H' := []) [] (sub_cons rfl sub_nil) (by decide) pick_nil ?_
  exact tx_ret1' Try.results34 rfl () (rv_tmp' rfl) (List.Sublist.refl _)
 dsimp only at hp
 refine zg_out fun w3 => ?_
 show TX E K5 _
 refine tx_k' hK5 ?_
 refine cr fun K19 hK19 => ?_
 refine s0 (rd_assign' rfl) ?_
 refine nk hK19 ?_
 refine cx_retc' ?_
 replace hp := Option.some.inj hp
 subst hp
 refine tx_pick' (L' := [(4, (Vb true))]) (H' := []) [] (sub_cons rfl sub_nil) (by decide) pick_nil ?_
 exact tx_ret1' Try.results34 rfl () (rv_tmp' rfl) (List.Sublist.refl _)

def spec_Among_j4 (k : Nat) (x11 : List Bool) (x8 : Int) (rec2 : Int → Option ((List Bool) × Bool)) (x7 : Bool) : Option ((List Bool) × Bool) :=
 br x7
  ((idx x11 x8) >>= fun r39 =>
  some ((x11.set x8.toNat true), true))
  (rec2 (iadd .i64 x8 1))
def spec_Among_l2s (a1 : List (List Nat)) (x11 : List Bool) (r18 : List Nat) (k : Nat) (rec2 : Int → Option ((List Bool) × Bool)) (x8 : Int) : Option ((List Bool) × Bool) :=
 br (decide (x8 < (a1.length : Int)))
  ((idx a1 x8) >>= fun r25 =>
  (idx x11 x8) >>= fun r29 =>
  br (!r29)
   ((spec_SamePoint k r18 r25) >>= fun r35 =>
   spec_Among_j4 k x11 x8 rec2 r35)
   (spec_Among_j4 k x11 x8 rec2 false))
  (some (x11, false))
def spec_Among_l2 (a1 : List (List Nat)) (x11 : List Bool) (r18 : List Nat) : Nat → Int → Option ((List Bool) × Bool)
 | 0, _ => none
 | k + 1, v => spec_Among_l2s a1 x11 r18 k (spec_Among_l2 a1 x11 r18 k) v
def spec_Among_l3s (a0 : List (List Nat)) (a1 : List (List Nat)) (k : Nat) (rec3 : ((List Bool) × Int) → Option (Unit ⊕ Unit)) (x11 : List Bool) (x12 : Int) : Option (Unit ⊕ Unit) :=
 br (decide (x12 < (a0.length : Int)))
  ((idx a0 x12) >>= fun r18 =>
  (spec_Among_l2 a1 x11 r18 k 0) >>= fun v9 =>
  br (!v9.2)
   (some (.inl ()))
   (rec3 (v9.1, (iadd .i64 x12 1))))
  (some (.inr ()))
def spec_Among_l3 (a0 : List (List Nat)) (a1 : List (List Nat)) : Nat → ((List Bool) × Int) → Option (Unit ⊕ Unit)
 | 0, _ => none
 | k + 1, v => spec_Among_l3s a0 a1 k (spec_Among_l3 a0 a1 k) v.1 v.2
def spec_Among (k : Nat) (a0 : List (List Nat)) (a1 : List (List Nat)) : Option (Bool) :=
 (mk 1 false (a1.length : Int) (a1.length : Int)) >>= fun r13 =>
 (spec_Among_l3 a0 a1 k (r13, 0)) >>= fun y3 => match y3 with
  | (.inl v10) =>
   (some false)
  | (.inr v11) =>
   (some true)

theorem spec_Among_sim {k : Nat}  (a0 : List (List Nat)) (a1 : List (List Nat)) {out : Bool} (hp : spec_Among k a0 a1 = some out) : Sx.Fn Try.prog 32 [(Sl (Kl Kf) a0), (Sl (Kl Kf) a1)] [] (fun w : Unit => (Vb out)) (fun w => []) := by
 unfold spec_Among at hp
 refine fn_of Try.func32 rfl Try.ntmps32 rfl fun E hM => ?_
 refine cr fun K1 hK1 => ?_
 refine s0 (rd_assign' rfl) ?_
 refine nk hK1 ?_
 refine cr fun K2 hK2 => ?_
 refine s0 (rd_move' rfl) ?_
 refine s0 (rd_len' rfl Try.underlying22) ?_
 obtain ⟨r13, hr13, hp⟩ := bind_some hp
 refine sx_ox' (ox_make' (K := Kb) rfl rfl hr13 rfl Try.underlying53 info4 rfl rfl rfl rfl rfl) (wt_none' rfl) fun g13 => ?_
 refine s0 (rd_assign' rfl) ?_
 refine nk hK2 ?_
 refine cx_seq' fun K3 hK3 => ?_
 refine cr fun K4 hK4 => ?_
 refine s0 (rd_move' rfl) ?_
 refine s0 (rd_len' rfl Try.underlying22) ?_
 refine s0 (rd_move' rfl) ?_
 refine nk hK4 ?_
 refine cx_block' ?_
 obtain ⟨y3, hy3, hp⟩ := bind_some hp
 refine cx_loopg' (F := spec_Among_l3 a0 a1) (G := fun k R v => spec_Among_l3s a0 a1 k R v.1 v.2) (x := (r13, 0)) (gh := ()) (fun (v5 : (List Bool) × Int) (w5 : Unit) => (⟨44, [], [(1, (Sl (Kl Kf) a1)), (5, (Vl (Vs g13))), (14, (Sl (Kl Kf) a0)), (15, (Vi (a0.length : Int))), (16, (Vi v5.2))], [(Rw Kb 4 (Vs g13) v5.1)]⟩ : St)) (fun (y : Unit ⊕ Unit) => match y with | (.inl v10) => Zg E Exit.ret (fun (w10 : Unit) => (⟨44, [], [(4, (Vb false))], []⟩ : St)) | (.inr v11) => Zg E (Exit.exit 0) (fun (w11 : Unit) => (⟨44, [], [], []⟩ : St))) (fun _ => rfl) (fun _ _ => rfl) ?_ hy3 (tx_to' rfl [0] (sub_cons rfl (sub_cons rfl (sub_cons rfl (sub_cons rfl (sub_cons rfl sub_nil))))) (by decide) (pick_cons rfl pick_nil)) ?_
 ·clear hp hy3
  clear y3
  intro k rec3 KY3 ih3
  rintro ⟨x11, x12⟩ ⟨⟩ y3 hp
  replace hp : spec_Among_l3s a0 a1 k rec3 x11 x12 = some y3 := hp
  unfold spec_Among_l3s at hp
  refine cr fun K28 hK28 => ?_
  refine s0 (rd_bin' rfl rfl eg_int ru_lss) ?_
  refine nk hK28 ?_
  refine cx_seq' fun K29 hK29 => ?_
  refine cx_cond' rfl (fun h11 => ?_) (fun h11 => ?_)
  ·replace hp := (br_t h11).symm.trans hp
   refine cx_skip' ?_
   show TX E K29 _
   refine tx_k' hK29 ?_
   refine cx_seq' fun K30 hK30 => ?_
   refine cx_block' ?_
   refine cr fun K31 hK31 => ?_
   obtain ⟨r18, hr18, hp⟩ := bind_some hp
   refine s0 (rd_at' (K := (Kl Kf)) rfl rfl hr18 Try.underlying22 info25) ?_
   refine s0 (rd_load_pt' rfl rfl flat25) ?_
   refine s0 (rd_assign' rfl) ?_
   refine nk hK31 ?_
   refine cr fun K32 hK32 => ?_
   refine s0 (rd_assign' rfl) ?_
   refine nk hK32 ?_
   refine cx_seq' fun K33 hK33 => ?_
   refine cr fun K34 hK34 => ?_
   refine s0 (rd_move' rfl) ?_
   refine s0 (rd_len' rfl Try.underlying22) ?_
   refine s0 (rd_move' rfl) ?_
   refine nk hK34 ?_
   refine cx_block' ?_
   obtain ⟨v9, hy2, hp⟩ := bind_some hp
   refine cx_loopg' (F := spec_Among_l2 a1 x11 r18) (G := fun k R v => spec_Among_l2s a1 x11 r18 k R v) (x := 0) (gh := ()) (fun (v7 : Int) (w7 : Unit) => (⟨44, [], [(1, (Sl (Kl Kf) a1)), (5, (Vl (Vs g13))), (7, (Sl Kf r18)), (8, (Vb false)), (14, (Sl (Kl Kf) a0)), (15, (Vi (a0.length : Int))), (16, (Vi x12)), (20, (Sl (Kl Kf) a1)), (21, (Vi (a1.length : Int))), (22, (Vi v7))], [(Rw Kb 4 (Vs g13) x11)]⟩ : St)) (fun (v9 : (List Bool) × Bool) => Zg E (Exit.exit 2) (fun (w9 : Unit) => (⟨44, [], [(1, (Sl (Kl Kf) a1)), (5, (Vl (Vs g13))), (8, (Vb v9.2)), (14, (Sl (Kl Kf) a0)), (15, (Vi (a0.length : Int))), (16, (Vi x12))], [(Rw Kb 4 (Vs g13) v9.1)]⟩ : St))) (fun _ => rfl) (fun _ _ => rfl) ?_ hy2 (tx_to' rfl [0] (sub_cons rfl (sub_cons rfl (sub_cons rfl (sub_cons rfl (sub_cons rfl (sub_cons rfl (sub_cons rfl (sub_cons rfl (sub_cons rfl (sub_cons rfl sub_nil)))))))))) (by decide) (pick_cons rfl pick_nil)) ?_
   ·clear hp hy2
    clear v9
    intro k rec2 KY2 ih2
    rintro x8 ⟨⟩ y2 hp
    replace hp : spec_Among_l2s a1 x11 r18 k rec2 x8 = some y2 := hp
    unfold spec_Among_l2s at hp
    refine cr fun K42 hK42 => ?_
    refine s0 (rd_bin' rfl rfl eg_int ru_lss) ?_
    refine nk hK42 ?_
    refine cx_seq' fun K43 hK43 => ?_
    refine cx_cond' rfl (fun h16 => ?_) (fun h16 => ?_)
    ·replace hp := (br_t h16).symm.trans hp
     refine cx_skip' ?_
     show TX E K43 _
     refine tx_k' hK43 ?_
     refine cx_seq' fun K44 hK44 => ?_
     refine cx_block' ?_
     refine cr fun K45 hK45 => ?_
     refine s0 (rd_move' rfl) ?_
     obtain ⟨r25, hr25, hp⟩ := bind_some hp
     refine s0 (rd_at' (K := (Kl Kf)) rfl rfl hr25 Try.underlying22 info25) ?_
     refine s0 (rd_load_pt' rfl rfl flat25) ?_
     refine s0 (rd_assign' rfl) ?_
     refine s0 (rd_assign' rfl) ?_
     refine nk hK45 ?_
     refine cr fun K46 hK46 => ?_
     refine s0 (rd_move' rfl) ?_
     refine s0 (rd_move' rfl) ?_
     obtain ⟨r29, hr29, hp⟩ := bind_some hp
     refine s0 (rd_atr' (m := 0) rfl rfl rfl rfl hr29 Try.underlying53 info4) ?_
     refine s0 (rd_loadr' rfl (m := 0) (i := x8) (j := 0) rfl rfl hr29 rfl rfl flat4) ?_
     refine s0 (rd_un' rfl ru_not) ?_
     refine s0 (rd_move' rfl) ?_
     refine sx_cutn' 4 (fun (v8 : Bool) => (⟨44, [], [(1, (Sl (Kl Kf) a1)), (5, (Vl (Vs g13))), (7, (Sl Kf r18)), (8, (Vb false)), (9, (Vi x8)), (14, (Sl (Kl Kf) a0)), (15, (Vi (a0.length : Int))), (16, (Vi x12)), (20, (Sl (Kl Kf) a1)), (21, (Vi (a1.length : Int))), (22, (Vi x8)), (36, (Vb v8))], [(Rw Kb 4 (Vs g13) x11)]⟩ : St)) (fun (v8 : Bool) => spec_Among_j4 k x11 x8 rec2 v8 = some y2) ?_ ?_
     ·rintro x7 hp
      replace hp : spec_Among_j4 k x11 x8 rec2 x7 = some y2 := hp
      unfold spec_Among_j4 at hp
      refine nk hK46 ?_
      refine cx_cond' rfl (fun h18 => ?_) (fun h18 => ?_)
      ·replace hp := (br_t h18).symm.trans hp
       refine cr fun K48 hK48 => ?_
       refine s0 (rd_move' rfl) ?_
       refine s0 (rd_move' rfl) ?_
       obtain ⟨r39, hr39, hp⟩ := bind_some hp
       refine s0 (rd_atr' (m := 0) rfl rfl rfl rfl hr39 Try.underlying53 info4) ?_
       refine sx_ox' (ox_storer' (m := 0) (i := x8) (j := 0) (x' := true) rfl rfl (lv_vl rfl rfl) rfl rfl hr39 rfl rfl rfl info4 rfl (H' := [(Rw Kb 4 (Vs g13) (x11.set x8.toNat true))]) rfl) (wt_none' rfl) fun _ => ?_
       refine s0 (rd_assign' rfl) ?_
       refine nk hK48 ?_
       refine cx_exit' ?_
       replace hp := Option.some.inj hp
       subst hp
       show TX E (Zg E (Exit.exit 2) _ (Exit.exit 2)) _
       exact tx_zend' () rfl [0] (sub_cons rfl (sub_cons rfl (sub_cons rfl (sub_cons rfl (sub_cons rfl (sub_cons rfl sub_nil)))))) (by decide) (pick_cons rfl pick_nil)
      replace hp := (br_f h18).symm.trans hp
      refine cx_skip' ?_
      show TX E K44 _
      refine tx_k' hK44 ?_
      refine cx_region' ?_
      refine s0 (rd_bin' rfl rfl eg_int ru_add) ?_
      refine s0 (rd_move' rfl) ?_
      refine sx_nil' ?_
      show TX E (KY2 _) _
      exact tx_pick' [0] (sub_cons rfl (sub_cons rfl (sub_cons rfl (sub_cons rfl (sub_cons rfl (sub_cons rfl (sub_cons rfl (sub_cons rfl (sub_cons rfl (sub_cons rfl sub_nil)))))))))) (by decide) (pick_cons rfl pick_nil) (ih2 (iadd .i64 x8 1) () _ hp)
     intro K47 hK47
     rcases br_cases hp with ⟨h17, hp⟩ | ⟨h17, hp⟩
     ·refine sx_rd' (rd_move' rfl) rfl rfl (wt_is' (wt_guard' rfl rfl rfl) (beq_tt h17)) ?_
      refine sx_rd' (rd_move' rfl) rfl rfl (wt_is' (wt_guard' rfl rfl rfl) (beq_tt h17)) ?_
      obtain ⟨r35, hr35, hp⟩ := bind_some hp
      refine sx_ox' (ox_calln' (ent_fn' Try.func34 isn34 rfl rfl) (spec_SamePoint_sim _ _ hr35 : Sx.Fn Try.prog 34 [(Sl Kf r18), (Sl Kf r25)] [] (fun x : Unit => (Vb r35)) (fun x => [])) (Hn := fun x : Unit => [(Rw Kb 4 (Vs g13) x11)]) (fun _ => rfl) rfl rfl) (wt_is' (wt_guard' rfl rfl rfl) (beq_tt h17)) fun ⟨⟩ => ?_
      refine s0 (rd_pick_true' rfl h17 rfl) ?_
      refine sx_nil' ?_
      show TX E K47 _
      exact tx_pick' [0] (sub_cons rfl (sub_cons rfl (sub_cons rfl (sub_cons rfl (sub_cons rfl (sub_cons rfl (sub_cons rfl (sub_cons rfl (sub_cons rfl (sub_cons rfl (sub_cons rfl (sub_cons rfl sub_nil)))))))))))) (by decide) (pick_cons rfl pick_nil) (hK47 r35 hp)
     refine sx_skip' rfl rfl (wt_is' (wt_guard' rfl rfl rfl) (beq_ft h17)) ?_
     refine sx_skip' rfl rfl (wt_is' (wt_guard' rfl rfl rfl) (beq_ft h17)) ?_
     refine sx_skip' rfl rfl (wt_is' (wt_guard' rfl rfl rfl) (beq_ft h17)) ?_
     refine s0 (rd_pick_false' rfl h17 rfl) ?_
     refine sx_nil' ?_
     show TX E K47 _
     exact tx_pick' [0] (sub_cons rfl (sub_cons rfl (sub_cons rfl (sub_cons rfl (sub_cons rfl (sub_cons rfl (sub_cons rfl (sub_cons rfl (sub_cons rfl (sub_cons rfl (sub_cons rfl (sub_cons rfl sub_nil)))))))))))) (by decide) (pick_cons rfl pick_nil) (hK47 false hp)
    replace hp := (br_f h16).symm.trans hp
    refine cx_exit' ?_
    replace hp := Option.some.inj hp
    subst hp
    show TX E (Zg E (Exit.exit 2) _ (Exit.exit 2)) _
    exact tx_zend' () rfl [0] (sub_cons rfl (sub_cons rfl (sub_cons rfl (sub_cons rfl (sub_cons rfl (sub_cons rfl sub_nil)))))) (by decide) (pick_cons rfl pick_nil)
   refine zg_out fun w9 => ?_
   show TX E K33 _
   refine tx_k' hK33 ?_
   refine cr fun K49 hK49 => ?_
   refine s0 (rd_move' rfl) ?_
   refine s0 (rd_un' rfl ru_not) ?_
   refine nk hK49 ?_
   refine cx_cond' rfl (fun h19 => ?_) (fun h19 => ?_)
   ·replace hp := (br_t h19).symm.trans hp
    refine cr fun K50 hK50 => ?_
    refine s0 (rd_assign' rfl) ?_
    refine nk hK50 ?_
    refine cx_retc' ?_
    replace hp := Option.some.inj hp
    subst hp
    show TX E (Zg E Exit.ret _ Exit.ret) _
    exact tx_zend' () rfl [] (sub_cons rfl sub_nil) (by decide) pick_nil
   replace hp := (br_f h19).symm.trans hp
   refine cx_skip' ?_
   show TX E K30 _
   refine tx_k' hK30 ?_
   refine cx_region' ?_
   refine s0 (rd_bin' rfl rfl eg_int ru_add) ?_
   refine s0 (rd_move' rfl) ?_
   refine sx_nil' ?_
   show TX E (KY3 _) _
   exact tx_pick' [0] (sub_cons rfl (sub_cons rfl (sub_cons rfl (sub_cons rfl (sub_cons rfl sub_nil))))) (by decide) (pick_cons rfl pick_nil) (ih3 (v9.1, (iadd .i64 x12 1)) () _ hp)
  replace hp := (br_f h11).symm.trans hp
  refine cx_exit' ?_
  replace hp := Option.some.inj hp
  subst hp
  show TX E (Zg E (Exit.exit 0) _ (Exit.exit 0)) _
  exact tx_zend' () rfl [] sub_nil (by decide) pick_nil
 rcases y3 with v10 | v11
 ·dsimp only at hp
  refine zg_out fun w10 => ?_
  replace hp := Option.some.inj hp
  subst hp
  refine tx_pick' (L' := [(4, (Vb false))]) (H' := []) [] (sub_cons rfl sub_nil) (by decide) pick_nil ?_
  exact tx_ret1' Try.results32 rfl () (rv_tmp' rfl) (List.Sublist.refl _)
 dsimp only at hp
 refine zg_out fun w11 => ?_
 show TX E K3 _
 refine tx_k' hK3 ?_
 refine cr fun K51 hK51 => ?_
 refine s0 (rd_assign' rfl) ?_
 refine nk hK51 ?_
 refine cx_retc' ?_
 replace hp := Option.some.inj hp
 subst hp
 refine tx_pick' (L' := [(4, (Vb true))]) (H' := []) [] (sub_cons rfl sub_nil) (by decide) pick_nil ?_
 exact tx_ret1' Try.results32 rfl () (rv_tmp' rfl) (List.Sublist.refl _)

def spec_SamePoints_j1 (k : Nat) (x1 : Bool) : Option (Bool) :=
 some x1
def spec_SamePoints (k : Nat) (a0 : List (List Nat)) (a1 : List (List Nat)) : Option (Bool) :=
 br (decide ((a0.length : Int) = (a1.length : Int)))
  ((spec_Among k a0 a1) >>= fun r13 =>
  spec_SamePoints_j1 k r13)
  (spec_SamePoints_j1 k false)

theorem spec_SamePoints_sim {k : Nat}  (a0 : List (List Nat)) (a1 : List (List Nat)) {out : Bool} (hp : spec_SamePoints k a0 a1 = some out) : Sx.Fn Try.prog 11 [(Sl (Kl Kf) a0), (Sl (Kl Kf) a1)] [] (fun w : Unit => (Vb out)) (fun w => []) := by
 unfold spec_SamePoints at hp
 refine fn_of Try.func11 rfl Try.ntmps11 rfl fun E hM => ?_
 refine cr fun K1 hK1 => ?_
 refine s0 (rd_assign' rfl) ?_
 refine nk hK1 ?_
 refine cr fun K2 hK2 => ?_
 refine s0 (rd_move' rfl) ?_
 refine s0 (rd_len' rfl Try.underlying22) ?_
 refine s0 (rd_move' rfl) ?_
 refine s0 (rd_len' rfl Try.underlying22) ?_
 refine s0 (rd_bin' rfl rfl eg_int ru_eql) ?_
 refine s0 (rd_move' rfl) ?_
 refine sx_cutn' 4 (fun (v1 : Bool) => (⟨15, [], [(14, (Vb v1))], []⟩ : St)) (fun (v1 : Bool) => spec_SamePoints_j1 k v1 = some out) ?_ ?_
 ·rintro x1 hp
  replace hp : spec_SamePoints_j1 k x1 = some out := hp
  unfold spec_SamePoints_j1 at hp
  refine s0 (rd_assign' rfl) ?_
  refine nk hK2 ?_
  refine cx_retc' ?_
  replace hp := Option.some.inj hp
  subst hp
  refine tx_pick' (L' := [(4, (Vb x1))]) (H' := []) [] (sub_cons rfl sub_nil) (by decide) pick_nil ?_
  exact tx_ret1' Try.results11 rfl () (rv_tmp' rfl) (List.Sublist.refl _)
 intro K3 hK3
 rcases br_cases hp with ⟨h1, hp⟩ | ⟨h1, hp⟩
 ·refine sx_rd' (rd_move' rfl) rfl rfl (wt_is' (wt_guard' rfl rfl rfl) (beq_tt h1)) ?_
  refine sx_rd' (rd_move' rfl) rfl rfl (wt_is' (wt_guard' rfl rfl rfl) (beq_tt h1)) ?_
  obtain ⟨r13, hr13, hp⟩ := bind_some hp
  refine sx_ox' (ox_calln' (ent_fn' Try.func32 isn32 rfl rfl) (spec_Among_sim _ _ hr13 : Sx.Fn Try.prog 32 [(Sl (Kl Kf) a0), (Sl (Kl Kf) a1)] [] (fun x : Unit => (Vb r13)) (fun x => [])) (Hn := fun x : Unit => []) (fun _ => rfl) rfl rfl) (wt_is' (wt_guard' rfl rfl rfl) (beq_tt h1)) fun ⟨⟩ => ?_
  refine s0 (rd_pick_true' rfl h1 rfl) ?_
  refine sx_nil' ?_
  show TX E K3 _
  exact tx_pick' [] (sub_cons rfl sub_nil) (by decide) pick_nil (hK3 r13 hp)
 refine sx_skip' rfl rfl (wt_is' (wt_guard' rfl rfl rfl) (beq_ft h1)) ?_
 refine sx_skip' rfl rfl (wt_is' (wt_guard' rfl rfl rfl) (beq_ft h1)) ?_
 refine sx_skip' rfl rfl (wt_is' (wt_guard' rfl rfl rfl) (beq_ft h1)) ?_
 refine s0 (rd_pick_false' rfl h1 rfl) ?_
 refine sx_nil' ?_
 show TX E K3 _
 exact tx_pick' [] (sub_cons rfl sub_nil) (by decide) pick_nil (hK3 false hp)

def spec_LeastBox_l2s (r13 : List Nat) (k : Nat) (rec2 : ((List Nat) × (List Nat) × Int) → Option ((List Nat) × (List Nat))) (x6 : List Nat) (x7 : List Nat) (x8 : Int) : Option ((List Nat) × (List Nat)) :=
 br (decide (x8 < (r13.length : Int)))
  ((idx r13 x8) >>= fun r28 =>
  (idx x6 x8) >>= fun r36 =>
  (fmin r36 r28) >>= fun r39 =>
  (idx x7 x8) >>= fun r42 =>
  (fmax r42 r28) >>= fun r45 =>
  (idx x6 x8) >>= fun r46 =>
  (idx x7 x8) >>= fun r47 =>
  rec2 ((x6.set x8.toNat r39), (x7.set x8.toNat r45), (iadd .i64 x8 1)))
  (some (x6, x7))
def spec_LeastBox_l2 (r13 : List Nat) : Nat → ((List Nat) × (List Nat) × Int) → Option ((List Nat) × (List Nat))
 | 0, _ => none
 | k + 1, v => spec_LeastBox_l2s r13 k (spec_LeastBox_l2 r13 k) v.1 v.2.1 v.2.2
def spec_LeastBox_j1 (k : Nat) (r13 : List Nat) (rec3 : ((List Nat) × (List Nat) × Int) → Option ((List Nat) × (List Nat))) (x13 : Int) (x14 : List Nat) (x15 : List Nat) : Option ((List Nat) × (List Nat)) :=
 (spec_LeastBox_l2 r13 k (x14, x15, 0)) >>= fun v5 =>
 rec3 (v5.1, v5.2, (iadd .i64 x13 1))
def spec_LeastBox_l3s (a0 : List (List Nat)) (k : Nat) (rec3 : ((List Nat) × (List Nat) × Int) → Option ((List Nat) × (List Nat))) (x11 : List Nat) (x12 : List Nat) (x13 : Int) : Option ((List Nat) × (List Nat)) :=
 br (decide (x13 < (a0.length : Int)))
  ((idx a0 x13) >>= fun r13 =>
  br (decide (x13 = 0))
   ((apd 8 x11 r13) >>= fun r19 =>
   (apd 8 x12 r13) >>= fun r22 =>
   spec_LeastBox_j1 k r13 rec3 x13 r19 r22)
   (spec_LeastBox_j1 k r13 rec3 x13 x11 x12))
  (some (x11, x12))
def spec_LeastBox_l3 (a0 : List (List Nat)) : Nat → ((List Nat) × (List Nat) × Int) → Option ((List Nat) × (List Nat))
 | 0, _ => none
 | k + 1, v => spec_LeastBox_l3s a0 k (spec_LeastBox_l3 a0 k) v.1 v.2.1 v.2.2
def spec_LeastBox (k : Nat) (a0 : List (List Nat)) : Option ((List Nat) × (List Nat)) :=
 (spec_LeastBox_l3 a0 k ([], [], 0)) >>= fun v7 =>
 some (v7.1, v7.2)

theorem spec_LeastBox_sim {k : Nat}  (a0 : List (List Nat)) {out : (List Nat) × (List Nat)} (hp : spec_LeastBox k a0 = some out) : Sx.Fn Try.prog 33 [(Sl (Kl Kf) a0)] [] (fun w : Unit => (Tu [(Sl Kf out.1), (Sl Kf out.2)])) (fun w => []) := by
 unfold spec_LeastBox at hp
 refine fn_of Try.func33 rfl Try.ntmps33 rfl fun E hM => ?_
 refine cr fun K1 hK1 => ?_
 refine s0 (rd_assign' rfl) ?_
 refine s0 (rd_assign' rfl) ?_
 refine nk hK1 ?_
 refine cx_seq' fun K2 hK2 => ?_
 refine cr fun K3 hK3 => ?_
 refine s0 (rd_move' rfl) ?_
 refine s0 (rd_len' rfl Try.underlying22) ?_
 refine s0 (rd_move' rfl) ?_
 refine nk hK3 ?_
 refine cx_block' ?_
 obtain ⟨v7, hy3, hp⟩ := bind_some hp
 refine tx_nilrow' Kf 40 ?_
 refine tx_nilrow' Kf 40 ?_
 refine cx_loopg' (F := spec_LeastBox_l3 a0) (G := fun k R v => spec_LeastBox_l3s a0 k R v.1 v.2.1 v.2.2) (x := ([], [], 0)) (gh := ((none, 0, 0), (none, 0, 0))) (fun (v3 : (List Nat) × (List Nat) × Int) (w3 : Gs × Gs) => (⟨52, [], [(2, (Vl (Vs w3.1))), (3, (Vl (Vs w3.2))), (8, (Sl (Kl Kf) a0)), (9, (Vi (a0.length : Int))), (10, (Vi v3.2.2))], [(Rw Kf 40 (Vs w3.1) v3.1), (Rw Kf 40 (Vs w3.2) v3.2.1)]⟩ : St)) (fun (v7 : (List Nat) × (List Nat)) => Zg E (Exit.exit 0) (fun (w7 : Gs × Gs) => (⟨52, [], [(2, (Vl (Vs w7.1))), (3, (Vl (Vs w7.2)))], [(Rw Kf 40 (Vs w7.1) v7.1), (Rw Kf 40 (Vs w7.2) v7.2)]⟩ : St))) (fun _ => rfl) (fun _ _ => rfl) ?_ hy3 (tx_to' rfl [1, 0] (sub_cons rfl (sub_cons rfl (sub_cons rfl (sub_cons rfl (sub_cons rfl sub_nil))))) (by decide) (pick_cons rfl (pick_cons rfl pick_nil))) ?_
 ·clear hp hy3
  clear v7
  intro k rec3 KY3 ih3
  rintro ⟨x11, x12, x13⟩ ⟨g901, g902⟩ y3 hp
  replace hp : spec_LeastBox_l3s a0 k rec3 x11 x12 x13 = some y3 := hp
  unfold spec_LeastBox_l3s at hp
  refine cr fun K19 hK19 => ?_
  refine s0 (rd_bin' rfl rfl eg_int ru_lss) ?_
  refine nk hK19 ?_
  refine cx_seq' fun K20 hK20 => ?_
  refine cx_cond' rfl (fun h6 => ?_) (fun h6 => ?_)
  ·replace hp := (br_t h6).symm.trans hp
   refine cx_skip' ?_
   show TX E K20 _
   refine tx_k' hK20 ?_
   refine cx_seq' fun K21 hK21 => ?_
   refine cx_block' ?_
   refine cr fun K22 hK22 => ?_
   refine s0 (rd_move' rfl) ?_
   obtain ⟨r13, hr13, hp⟩ := bind_some hp
   refine s0 (rd_at' (K := (Kl Kf)) rfl rfl hr13 Try.underlying22 info25) ?_
   refine s0 (rd_load_pt' rfl rfl flat25) ?_
   refine s0 (rd_assign' rfl) ?_
   refine s0 (rd_assign' rfl) ?_
   refine nk hK22 ?_
   refine cx_join' (fun (v6 : (List Nat) × (List Nat) × Gs × Gs) => (⟨52, [], [(2, (Vl (Vs v6.2.2.1))), (3, (Vl (Vs v6.2.2.2))), (5, (Sl Kf r13)), (8, (Sl (Kl Kf) a0)), (9, (Vi (a0.length : Int))), (10, (Vi x13))], [(Rw Kf 40 (Vs v6.2.2.1) v6.1), (Rw Kf 40 (Vs v6.2.2.2) v6.2.1)]⟩ : St)) (fun (v6 : (List Nat) × (List Nat) × Gs × Gs) => spec_LeastBox_j1 k r13 rec3 x13 v6.1 v6.2.1 = some y3) ?_ ?_
   ·rintro ⟨x14, x15, g903, g904⟩ hp
    replace hp : spec_LeastBox_j1 k r13 rec3 x13 x14 x15 = some y3 := hp
    unfold spec_LeastBox_j1 at hp
    refine cr fun K25 hK25 => ?_
    refine s0 (rd_move' rfl) ?_
    refine s0 (rd_len' rfl Try.underlying25) ?_
    refine s0 (rd_move' rfl) ?_
    refine nk hK25 ?_
    refine cx_block' ?_
    obtain ⟨v5, hy2, hp⟩ := bind_some hp
    refine cx_loopg' (F := spec_LeastBox_l2 r13) (G := fun k R v => spec_LeastBox_l2s r13 k R v.1 v.2.1 v.2.2) (x := (x14, x15, 0)) (gh := ()) (fun (v4 : (List Nat) × (List Nat) × Int) (w4 : Unit) => (⟨52, [], [(2, (Vl (Vs g903))), (3, (Vl (Vs g904))), (8, (Sl (Kl Kf) a0)), (9, (Vi (a0.length : Int))), (10, (Vi x13)), (23, (Sl Kf r13)), (24, (Vi (r13.length : Int))), (25, (Vi v4.2.2))], [(Rw Kf 40 (Vs g903) v4.1), (Rw Kf 40 (Vs g904) v4.2.1)]⟩ : St)) (fun (v5 : (List Nat) × (List Nat)) => Zg E (Exit.exit 2) (fun (w5 : Unit) => (⟨52, [], [(2, (Vl (Vs g903))), (3, (Vl (Vs g904))), (8, (Sl (Kl Kf) a0)), (9, (Vi (a0.length : Int))), (10, (Vi x13))], [(Rw Kf 40 (Vs g903) v5.1), (Rw Kf 40 (Vs g904) v5.2)]⟩ : St))) (fun _ => rfl) (fun _ _ => rfl) ?_ hy2 (tx_to' rfl [0, 1] (sub_cons rfl (sub_cons rfl (sub_cons rfl (sub_cons rfl (sub_cons rfl (sub_cons rfl (sub_cons rfl (sub_cons rfl sub_nil)))))))) (by decide) (pick_cons rfl (pick_cons rfl pick_nil))) ?_
    ·clear hp hy2
     clear v5
     intro k rec2 KY2 ih2
     rintro ⟨x6, x7, x8⟩ ⟨⟩ y2 hp
     replace hp : spec_LeastBox_l2s r13 k rec2 x6 x7 x8 = some y2 := hp
     unfold spec_LeastBox_l2s at hp
     refine cr fun K30 hK30 => ?_
     refine s0 (rd_bin' rfl rfl eg_int ru_lss) ?_
     refine nk hK30 ?_
     refine cx_seq' fun K31 hK31 => ?_
     refine cx_cond' rfl (fun h9 => ?_) (fun h9 => ?_)
     ·replace hp := (br_t h9).symm.trans hp
      refine cx_skip' ?_
      show TX E K31 _
      refine tx_k' hK31 ?_
      refine cx_seq' fun K32 hK32 => ?_
      refine cx_block' ?_
      refine cr fun K33 hK33 => ?_
      refine s0 (rd_move' rfl) ?_
      obtain ⟨r28, hr28, hp⟩ := bind_some hp
      refine s0 (rd_at' (K := Kf) rfl rfl hr28 Try.underlying25 info40) ?_
      refine s0 (rd_load_pt' rfl rfl flat40) ?_
      refine s0 (rd_assign' rfl) ?_
      refine s0 (rd_assign' rfl) ?_
      refine nk hK33 ?_
      refine cx_plan' [] [(17, 1), (19, 1)] [(0, 1), (1, 1), (2, 2), (3, 2), (4, 1), (5, 1), (6, 1), (7, 1), (8, 1), (9, 1), (10, 1), (11, 1), (12, 1), (13, 1), (14, 2), (15, 2), (16, 1), (17, 0), (18, 1), (19, 0)] mixed (by kernel_rfl) ?_
      refine px_rd' rfl (rd_move' rfl) rfl rfl (wt_none' rfl) ?_
      refine px_rd' rfl (rd_move' rfl) rfl rfl (wt_none' rfl) ?_
      refine px_rb' rfl (rb_move' rfl) rfl rfl (wt_none' rfl) ?_
      refine px_rb' rfl (rb_move' rfl) rfl rfl (wt_none' rfl) ?_
      refine px_rd' rfl (rd_move' rfl) rfl rfl (wt_none' rfl) ?_
      refine px_rd' rfl (rd_move' rfl) rfl rfl (wt_none' rfl) ?_
      obtain ⟨r36, hr36, hp⟩ := bind_some hp
      refine px_rd' rfl (rd_atr' (m := 0) rfl rfl rfl rfl hr36 Try.underlying25 info40) rfl rfl (wt_none' rfl) ?_
      refine px_rd' rfl (rd_loadr' rfl (m := 0) (i := x8) (j := 0) rfl rfl hr36 rfl rfl flat40) rfl rfl (wt_none' rfl) ?_
      refine px_rd' rfl (rd_move' rfl) rfl rfl (wt_none' rfl) ?_
      obtain ⟨r39, hr39, hp⟩ := bind_some hp
      refine px_rd' rfl (rd_fmin' rfl rfl hr39) rfl rfl (wt_none' rfl) ?_
      refine px_rd' rfl (rd_move' rfl) rfl rfl (wt_none' rfl) ?_
      refine px_rd' rfl (rd_move' rfl) rfl rfl (wt_none' rfl) ?_
      obtain ⟨r42, hr42, hp⟩ := bind_some hp
      refine px_rd' rfl (rd_atr' (m := 1) rfl rfl rfl rfl hr42 Try.underlying25 info40) rfl rfl (wt_none' rfl) ?_
      refine px_rd' rfl (rd_loadr' rfl (m := 1) (i := x8) (j := 0) rfl rfl hr42 rfl rfl flat40) rfl rfl (wt_none' rfl) ?_
      refine px_rb' rfl (rb_move' rfl) rfl rfl (wt_none' rfl) ?_
      obtain ⟨r45, hr45, hp⟩ := bind_some hp
      refine px_rb' rfl (rb_fmax' rfl rfl hr45) rfl rfl (wt_none' rfl) ?_
      obtain ⟨r46, hr46, hp⟩ := bind_some hp
      refine px_rd' rfl (rd_atr' (m := 0) rfl rfl rfl rfl hr46 Try.underlying25 info40) rfl rfl (wt_none' rfl) ?_
      refine px_ox' rfl (ox_storer' (m := 0) (i := x8) (j := 0) (x' := r39) rfl rfl (lv_vl rfl rfl) rfl rfl hr46 rfl rfl rfl info40 rfl (H' := [(Rw Kf 40 (Vs g903) (x6.set x8.toNat r39)), (Rw Kf 40 (Vs g904) x7)]) rfl) rfl bs_nil (wt_none' rfl) fun _ => ?_
      obtain ⟨r47, hr47, hp⟩ := bind_some hp
      refine px_rd' rfl (rd_atr' (m := 1) rfl rfl rfl rfl hr47 Try.underlying25 info40) rfl rfl (wt_none' rfl) ?_
      refine px_ox' rfl (ox_storer' (m := 1) (i := x8) (j := 0) (x' := r45) rfl rfl (lv_vl rfl rfl) rfl rfl hr47 rfl rfl rfl info40 rfl (H' := [(Rw Kf 40 (Vs g903) (x6.set x8.toNat r39)), (Rw Kf 40 (Vs g904) (x7.set x8.toNat r45))]) rfl) rfl bs_nil (wt_none' rfl) fun _ => ?_
      refine px_nil' ?_
      show TX E K32 _
      refine tx_k' hK32 ?_
      refine cx_region' ?_
      refine s0 (rd_bin' rfl rfl eg_int ru_add) ?_
      refine s0 (rd_move' rfl) ?_
      refine sx_nil' ?_
      show TX E (KY2 _) _
      exact tx_pick' [0, 1] (sub_cons rfl (sub_cons rfl (sub_cons rfl (sub_cons rfl (sub_cons rfl (sub_cons rfl (sub_cons rfl (sub_cons rfl sub_nil)))))))) (by decide) (pick_cons rfl (pick_cons rfl pick_nil)) (ih2 ((x6.set x8.toNat r39), (x7.set x8.toNat r45), (iadd .i64 x8 1)) () _ hp)
     replace hp := (br_f h9).symm.trans hp
     refine cx_exit' ?_
     replace hp := Option.some.inj hp
     subst hp
     show TX E (Zg E (Exit.exit 2) _ (Exit.exit 2)) _
     exact tx_zend' () rfl [0, 1] (sub_cons rfl (sub_cons rfl (sub_cons rfl (sub_cons rfl (sub_cons rfl sub_nil))))) (by decide) (pick_cons rfl (pick_cons rfl pick_nil))
    refine zg_out fun w5 => ?_
    show TX E K21 _
    refine tx_k' hK21 ?_
    refine cx_region' ?_
    refine s0 (rd_bin' rfl rfl eg_int ru_add) ?_
    refine s0 (rd_move' rfl) ?_
    refine sx_nil' ?_
    show TX E (KY3 _) _
    exact tx_pick' [0, 1] (sub_cons rfl (sub_cons rfl (sub_cons rfl (sub_cons rfl (sub_cons rfl sub_nil))))) (by decide) (pick_cons rfl (pick_cons rfl pick_nil)) (ih3 (v5.1, v5.2, (iadd .i64 x13 1)) (g903, g904) _ hp)
   intro K23 hK23
   refine cr fun K24 hK24 => ?_
   refine s0 (rd_move' rfl) ?_
   refine s0 (rd_bin' rfl rfl eg_int ru_eql) ?_
   refine nk hK24 ?_
   refine cx_cond' rfl (fun h10 => ?_) (fun h10 => ?_)
   ·replace hp := (br_t h10).symm.trans hp
    refine cx_region' ?_
    refine s0 (rd_move' rfl) ?_
    refine s0 (rd_move' rfl) ?_
    obtain ⟨r19, hr19, hp⟩ := bind_some hp
    refine sx_ox' (ox_append' (K := Kf) (i := 0) (xs := x11) (ys := r13) rfl rfl rfl (sr_sl' rfl Try.underlying25) hr19 Try.underlying25 info40 rfl rfl rfl (H' := [(Rw Kf 40 (Vs g902) x12)]) rfl) (wt_none' rfl) fun g19 => ?_
    refine s0 (rd_move' rfl) ?_
    refine s0 (rd_move' rfl) ?_
    obtain ⟨r22, hr22, hp⟩ := bind_some hp
    refine sx_ox' (ox_append' (K := Kf) (i := 1) (xs := x12) (ys := r13) rfl rfl rfl (sr_sl' rfl Try.underlying25) hr22 Try.underlying25 info40 rfl rfl rfl (H' := [(Rw Kf 40 (Vs g19) r19)]) rfl) (wt_none' rfl) fun g22 => ?_
    refine s0 (rd_assign' rfl) ?_
    refine s0 (rd_assign' rfl) ?_
    refine sx_nil' ?_
    show TX E K23 _
    exact tx_pick' [1, 0] (sub_cons rfl (sub_cons rfl (sub_cons rfl (sub_cons rfl (sub_cons rfl (sub_cons rfl sub_nil)))))) (by decide) (pick_cons rfl (pick_cons rfl pick_nil)) (hK23 (r19, r22, g19, g22) hp)
   replace hp := (br_f h10).symm.trans hp
   refine cx_skip' ?_
   show TX E K23 _
   exact tx_pick' [0, 1] (sub_cons rfl (sub_cons rfl (sub_cons rfl (sub_cons rfl (sub_cons rfl (sub_cons rfl sub_nil)))))) (by decide) (pick_cons rfl (pick_cons rfl pick_nil)) (hK23 (x11, x12, g901, g902) hp)
  replace hp := (br_f h6).symm.trans hp
  refine cx_exit' ?_
  replace hp := Option.some.inj hp
  subst hp
  show TX E (Zg E (Exit.exit 0) _ (Exit.exit 0)) _
  exact tx_zend' (g901, g902) rfl [0, 1] (sub_cons rfl (sub_cons rfl sub_nil)) (by decide) (pick_cons rfl (pick_cons rfl pick_nil))
 refine zg_out fun w7 => ?_
 show TX E K2 _
 refine tx_k' hK2 ?_
 refine cr fun K34 hK34 => ?_
 refine s0 (rd_move' rfl) ?_
 refine s0 (rd_move' rfl) ?_
 refine s0 (rd_assign' rfl) ?_
 refine s0 (rd_assign' rfl) ?_
 refine nk hK34 ?_
 refine cx_retc' ?_
 replace hp := Option.some.inj hp
 subst hp
 refine tx_fz' (frz_row 0 [(2, (Vl (Vs w7.1)), (Sl Kf v7.1)), (50, (Vl (Vs w7.1)), (Sl Kf v7.1))] (K := Kf) (xs := v7.1) (by decide) rfl ⟨⟨rfl, frz_it⟩, ⟨rfl, frz_it⟩, trivial⟩ (H' := [(Rw Kf 40 (Vs w7.2) v7.2)]) frzH_refl) ?_
 refine tx_fz' (frz_row 0 [(3, (Vl (Vs w7.2)), (Sl Kf v7.2)), (51, (Vl (Vs w7.2)), (Sl Kf v7.2))] (K := Kf) (xs := v7.2) (by decide) rfl ⟨⟨rfl, frz_it⟩, ⟨rfl, frz_it⟩, trivial⟩ (H' := []) frzH_refl) ?_
 refine tx_pick' (L' := [(2, (Sl Kf v7.1)), (3, (Sl Kf v7.2))]) (H' := []) [] (sub_cons rfl (sub_cons rfl sub_nil)) (by decide) pick_nil ?_
 exact tx_ret2' Try.results33 rfl () (rv_tmp' rfl) (rv_tmp' rfl) rfl (List.Sublist.refl _)

def laws_boxed_j4 (k : Nat) (rec1 : Int → Option (Unit ⊕ Unit)) (x7 : Int) (x6 : Bool) : Option (Unit ⊕ Unit) :=
 br x6
  (some (.inl ()))
  (rec1 (iadd .i64 x7 1))
def laws_boxed_j3 (k : Nat) (r14 : (List Nat) × Int × Int × Int × (List Nat) × (List Nat)) (rec1 : Int → Option (Unit ⊕ Unit)) (x7 : Int) (x4 : List Nat) (x5 : List Nat) : Option (Unit ⊕ Unit) :=
 (spec_SamePoint k r14.2.2.2.2.1 x4) >>= fun r28 =>
 br (!r28)
  (laws_boxed_j4 k rec1 x7 true)
  ((spec_SamePoint k r14.2.2.2.2.2 x5) >>= fun r34 =>
  laws_boxed_j4 k rec1 x7 (!r34))
def laws_boxed_l1s (a0 : List ((List Nat) × Int × Int × Int × (List Nat) × (List Nat))) (a1 : Bool) (k : Nat) (rec1 : Int → Option (Unit ⊕ Unit)) (x7 : Int) : Option (Unit ⊕ Unit) :=
 br (decide (x7 < (a0.length : Int)))
  ((idx a0 x7) >>= fun r14 =>
  (spec_KPoints k a0 x7) >>= fun r19 =>
  (spec_LeastBox k r19) >>= fun r20 =>
  br (!a1)
   (laws_boxed_j3 k r14 rec1 x7 [] [])
   (laws_boxed_j3 k r14 rec1 x7 r20.1 r20.2))
  (some (.inr ()))
def laws_boxed_l1 (a0 : List ((List Nat) × Int × Int × Int × (List Nat) × (List Nat))) (a1 : Bool) : Nat → Int → Option (Unit ⊕ Unit)
 | 0, _ => none
 | k + 1, v => laws_boxed_l1s a0 a1 k (laws_boxed_l1 a0 a1 k) v
def laws_boxed (k : Nat) (a0 : List ((List Nat) × Int × Int × Int × (List Nat) × (List Nat))) (a1 : Bool) : Option (Bool) :=
 (laws_boxed_l1 a0 a1 k 0) >>= fun y1 => match y1 with
  | (.inl v6) =>
   (some false)
  | (.inr v7) =>
   (some true)

theorem laws_boxed_sim {k : Nat}  (a0 : List ((List Nat) × Int × Int × Int × (List Nat) × (List Nat))) (a1 : Bool) {out : Bool} (hp : laws_boxed k a0 a1 = some out) : Sx.Fn Try.prog 13 [(Sl KT37 a0), (Vb a1)] [] (fun w : Unit => (Vb out)) (fun w => []) := by
 unfold laws_boxed at hp
 refine fn_of Try.func13 rfl Try.ntmps13 rfl fun E hM => ?_
 refine cr fun K1 hK1 => ?_
 refine s0 (rd_assign' rfl) ?_
 refine nk hK1 ?_
 refine cx_seq' fun K2 hK2 => ?_
 refine cr fun K3 hK3 => ?_
 refine s0 (rd_move' rfl) ?_
 refine s0 (rd_len' rfl Try.underlying26) ?_
 refine s0 (rd_move' rfl) ?_
 refine nk hK3 ?_
 refine cx_block' ?_
 obtain ⟨y1, hy1, hp⟩ := bind_some hp
 refine cx_loopg' (F := laws_boxed_l1 a0 a1) (G := fun k R v => laws_boxed_l1s a0 a1 k R v) (x := 0) (gh := ()) (fun (v3 : Int) (w3 : Unit) => (⟨38, [], [(0, (Sl KT37 a0)), (1, (Vb a1)), (9, (Sl KT37 a0)), (10, (Vi (a0.length : Int))), (11, (Vi v3))], []⟩ : St)) (fun (y : Unit ⊕ Unit) => match y with | (.inl v6) => Zg E Exit.ret (fun (w6 : Unit) => (⟨38, [], [(4, (Vb false))], []⟩ : St)) | (.inr v7) => Zg E (Exit.exit 0) (fun (w7 : Unit) => (⟨38, [], [], []⟩ : St))) (fun _ => rfl) (fun _ _ => rfl) ?_ hy1 (tx_to' rfl [] (sub_cons rfl (sub_cons rfl (sub_cons rfl (sub_cons rfl (sub_cons rfl sub_nil))))) (by decide) pick_nil) ?_
 ·clear hp hy1
  clear y1
  intro k rec1 KY1 ih1
  rintro x7 ⟨⟩ y1 hp
  replace hp : laws_boxed_l1s a0 a1 k rec1 x7 = some y1 := hp
  unfold laws_boxed_l1s at hp
  refine cr fun K14 hK14 => ?_
  refine s0 (rd_bin' rfl rfl eg_int ru_lss) ?_
  refine nk hK14 ?_
  refine cx_seq' fun K15 hK15 => ?_
  refine cx_cond' rfl (fun h6 => ?_) (fun h6 => ?_)
  ·replace hp := (br_t h6).symm.trans hp
   refine cx_skip' ?_
   show TX E K15 _
   refine tx_k' hK15 ?_
   refine cx_seq' fun K16 hK16 => ?_
   refine cx_block' ?_
   refine cr fun K17 hK17 => ?_
   refine s0 (rd_move' rfl) ?_
   obtain ⟨r14, hr14, hp⟩ := bind_some hp
   refine s0 (rd_at' (K := KT37) rfl rfl hr14 Try.underlying26 info37) ?_
   refine s0 (rd_load_pt_agg' (nn := 6) rfl rfl agg37 (l' := [(Sl Kf r14.1), (Vi r14.2.1), (Vi r14.2.2.1), (Vi r14.2.2.2.1), (Sl Kf r14.2.2.2.2.1), (Sl Kf r14.2.2.2.2.2)]) rfl) ?_
   refine sx_ox' (ox_alloc' info37 rfl rfl rfl rfl (l := [Vn, (Vi 0), (Vi 0), (Vi 0), Vn, Vn]) rfl) (wt_none' rfl) fun q6 => ?_
   refine s0 (rd_assign' rfl) ?_
   refine sx_ox' (ox_store' (i := 0) (o := 0) rfl rfl (lv_ag _) ⟨rfl, rfl, rfl, rfl⟩ rfl info37 rfl (H' := [⟨.pointer (some q6), [(Sl Kf r14.1), (Vi r14.2.1), (Vi r14.2.2.1), (Vi r14.2.2.2.1), (Sl Kf r14.2.2.2.2.1), (Sl Kf r14.2.2.2.2.2)], 37, none⟩]) rfl) (wt_none' rfl) fun _ => ?_
   refine nk hK17 ?_
   refine cr fun K18 hK18 => ?_
   refine s0 (rd_move' rfl) ?_
   refine s0 (rd_move' rfl) ?_
   obtain ⟨r19, hr19, hp⟩ := bind_some hp
   refine sx_ox' (ox_calln' (ent_fn' Try.func12 isn12 rfl rfl) (spec_KPoints_sim _ _ hr19 : Sx.Fn Try.prog 12 [(Sl KT37 a0), (Vi x7)] [] (fun x : Unit => (Sl (Kl Kf) r19)) (fun x => [])) (Hn := fun x : Unit => [⟨.pointer (some q6), [(Sl Kf r14.1), (Vi r14.2.1), (Vi r14.2.2.1), (Vi r14.2.2.2.1), (Sl Kf r14.2.2.2.2.1), (Sl Kf r14.2.2.2.2.2)], 37, none⟩]) (fun _ => rfl) rfl rfl) (wt_none' rfl) fun ⟨⟩ => ?_
   obtain ⟨r20, hr20, hp⟩ := bind_some hp
   refine sx_ox' (ox_calln' (ent_fn' Try.func33 isn33 rfl rfl) (spec_LeastBox_sim _ hr20 : Sx.Fn Try.prog 33 [(Sl (Kl Kf) r19)] [] (fun x : Unit => (Tu [(Sl Kf r20.1), (Sl Kf r20.2)])) (fun x => [])) (Hn := fun x : Unit => [⟨.pointer (some q6), [(Sl Kf r14.1), (Vi r14.2.1), (Vi r14.2.2.1), (Vi r14.2.2.2.1), (Sl Kf r14.2.2.2.2.1), (Sl Kf r14.2.2.2.2.2)], 37, none⟩]) (fun _ => rfl) rfl rfl) (wt_none' rfl) fun ⟨⟩ => ?_
   refine s0 (rd_move' rfl) ?_
   refine s0 (rd_extract' rfl rfl) ?_
   refine s0 (rd_extract' rfl rfl) ?_
   refine s0 (rd_assign' rfl) ?_
   refine s0 (rd_assign' rfl) ?_
   refine nk hK18 ?_
   refine cx_join' (fun (v4 : (List Nat) × (List Nat)) => (⟨38, [], [(0, (Sl KT37 a0)), (1, (Vb a1)), (6, (Vp q6)), (7, (Sl Kf v4.1)), (8, (Sl Kf v4.2)), (9, (Sl KT37 a0)), (10, (Vi (a0.length : Int))), (11, (Vi x7))], [⟨.pointer (some q6), [(Sl Kf r14.1), (Vi r14.2.1), (Vi r14.2.2.1), (Vi r14.2.2.2.1), (Sl Kf r14.2.2.2.2.1), (Sl Kf r14.2.2.2.2.2)], 37, none⟩]⟩ : St)) (fun (v4 : (List Nat) × (List Nat)) => laws_boxed_j3 k r14 rec1 x7 v4.1 v4.2 = some y1) ?_ ?_
   ·rintro ⟨x4, x5⟩ hp
    replace hp : laws_boxed_j3 k r14 rec1 x7 x4 x5 = some y1 := hp
    unfold laws_boxed_j3 at hp
    refine cr fun K21 hK21 => ?_
    refine s0 (rd_field' (off := 4) rfl Try.underlying37 rfl info25 rfl) ?_
    refine s0 (rd_load' (i := 0) (o := 4) rfl ⟨rfl, rfl, rfl, rfl⟩ rfl flat25) ?_
    refine s0 (rd_move' rfl) ?_
    obtain ⟨r28, hr28, hp⟩ := bind_some hp
    refine sx_ox' (ox_calln' (ent_fn' Try.func34 isn34 rfl rfl) (spec_SamePoint_sim _ _ hr28 : Sx.Fn Try.prog 34 [(Sl Kf r14.2.2.2.2.1), (Sl Kf x4)] [] (fun x : Unit => (Vb r28)) (fun x => [])) (Hn := fun x : Unit => [⟨.pointer (some q6), [(Sl Kf r14.1), (Vi r14.2.1), (Vi r14.2.2.1), (Vi r14.2.2.2.1), (Sl Kf r14.2.2.2.2.1), (Sl Kf r14.2.2.2.2.2)], 37, none⟩]) (fun _ => rfl) rfl rfl) (wt_none' rfl) fun ⟨⟩ => ?_
    refine s0 (rd_un' rfl ru_not) ?_
    refine s0 (rd_move' rfl) ?_
    refine sx_cutn' 6 (fun (v5 : Bool) => (⟨38, [], [(0, (Sl KT37 a0)), (1, (Vb a1)), (9, (Sl KT37 a0)), (10, (Vi (a0.length : Int))), (11, (Vi x7)), (36, (Vb v5))], []⟩ : St)) (fun (v5 : Bool) => laws_boxed_j4 k rec1 x7 v5 = some y1) ?_ ?_
    ·rintro x6 hp
     replace hp : laws_boxed_j4 k rec1 x7 x6 = some y1 := hp
     unfold laws_boxed_j4 at hp
     refine nk hK21 ?_
     refine cx_cond' rfl (fun h9 => ?_) (fun h9 => ?_)
     ·replace hp := (br_t h9).symm.trans hp
      refine cr fun K23 hK23 => ?_
      refine s0 (rd_assign' rfl) ?_
      refine nk hK23 ?_
      refine cx_retc' ?_
      replace hp := Option.some.inj hp
      subst hp
      show TX E (Zg E Exit.ret _ Exit.ret) _
      exact tx_zend' () rfl [] (sub_cons rfl sub_nil) (by decide) pick_nil
     replace hp := (br_f h9).symm.trans hp
     refine cx_skip' ?_
     show TX E K16 _
     refine tx_k' hK16 ?_
     refine cx_region' ?_
     refine s0 (rd_bin' rfl rfl eg_int ru_add) ?_
     refine s0 (rd_move' rfl) ?_
     refine sx_nil' ?_
     show TX E (KY1 _) _
     exact tx_pick' [] (sub_cons rfl (sub_cons rfl (sub_cons rfl (sub_cons rfl (sub_cons rfl sub_nil))))) (by decide) pick_nil (ih1 (iadd .i64 x7 1) () _ hp)
    intro K22 hK22
    rcases br_cases hp with ⟨h8, hp⟩ | ⟨h8, hp⟩
    ·refine sx_skip' rfl rfl (wt_is' (wt_guard' rfl rfl rfl) (beq_tf h8)) ?_
     refine sx_skip' rfl rfl (wt_is' (wt_guard' rfl rfl rfl) (beq_tf h8)) ?_
     refine sx_skip' rfl rfl (wt_is' (wt_guard' rfl rfl rfl) (beq_tf h8)) ?_
     refine sx_skip' rfl rfl (wt_is' (wt_guard' rfl rfl rfl) (beq_tf h8)) ?_
     refine sx_skip' rfl rfl (wt_is' (wt_guard' rfl rfl rfl) (beq_tf h8)) ?_
     refine s0 (rd_pick_true' rfl h8 rfl) ?_
     refine sx_nil' ?_
     show TX E K22 _
     exact tx_pick' [] (sub_cons rfl (sub_cons rfl (sub_cons rfl (sub_cons rfl (sub_cons rfl (sub_cons rfl sub_nil)))))) (by decide) pick_nil (hK22 true hp)
    refine sx_rd' (rd_field' (off := 5) rfl Try.underlying37 rfl info25 rfl) rfl rfl (wt_is' (wt_guard' rfl rfl rfl) (beq_ff h8)) ?_
    refine sx_rd' (rd_load' (i := 0) (o := 5) rfl ⟨rfl, rfl, rfl, rfl⟩ rfl flat25) rfl rfl (wt_is' (wt_guard' rfl rfl rfl) (beq_ff h8)) ?_
    refine sx_rd' (rd_move' rfl) rfl rfl (wt_is' (wt_guard' rfl rfl rfl) (beq_ff h8)) ?_
    obtain ⟨r34, hr34, hp⟩ := bind_some hp
    refine sx_ox' (ox_calln' (ent_fn' Try.func34 isn34 rfl rfl) (spec_SamePoint_sim _ _ hr34 : Sx.Fn Try.prog 34 [(Sl Kf r14.2.2.2.2.2), (Sl Kf x5)] [] (fun x : Unit => (Vb r34)) (fun x => [])) (Hn := fun x : Unit => [⟨.pointer (some q6), [(Sl Kf r14.1), (Vi r14.2.1), (Vi r14.2.2.1), (Vi r14.2.2.2.1), (Sl Kf r14.2.2.2.2.1), (Sl Kf r14.2.2.2.2.2)], 37, none⟩]) (fun _ => rfl) rfl rfl) (wt_is' (wt_guard' rfl rfl rfl) (beq_ff h8)) fun ⟨⟩ => ?_
    refine sx_rd' (rd_un' rfl ru_not) rfl rfl (wt_is' (wt_guard' rfl rfl rfl) (beq_ff h8)) ?_
    refine s0 (rd_pick_false' rfl h8 rfl) ?_
    refine sx_nil' ?_
    show TX E K22 _
    exact tx_pick' [] (sub_cons rfl (sub_cons rfl (sub_cons rfl (sub_cons rfl (sub_cons rfl (sub_cons rfl sub_nil)))))) (by decide) pick_nil (hK22 (!r34) hp)
   intro K19 hK19
   refine cr fun K20 hK20 => ?_
   refine s0 (rd_move' rfl) ?_
   refine s0 (rd_un' rfl ru_not) ?_
   refine nk hK20 ?_
   refine cx_cond' rfl (fun h7 => ?_) (fun h7 => ?_)
   ·replace hp := (br_t h7).symm.trans hp
    refine cx_region' ?_
    refine s0 (rd_assign' rfl) ?_
    refine s0 (rd_assign' rfl) ?_
    refine sx_nil' ?_
    show TX E K19 _
    refine tx_slot' 7 (y := (Sl Kf [])) rfl imp_nil ?_
    refine tx_slot' 8 (y := (Sl Kf [])) rfl imp_nil ?_
    exact tx_pick' [0] (sub_cons rfl (sub_cons rfl (sub_cons rfl (sub_cons rfl (sub_cons rfl (sub_cons rfl (sub_cons rfl (sub_cons rfl sub_nil)))))))) (by decide) (pick_cons rfl pick_nil) (hK19 ([], []) hp)
   replace hp := (br_f h7).symm.trans hp
   refine cx_skip' ?_
   show TX E K19 _
   exact tx_pick' [0] (sub_cons rfl (sub_cons rfl (sub_cons rfl (sub_cons rfl (sub_cons rfl (sub_cons rfl (sub_cons rfl (sub_cons rfl sub_nil)))))))) (by decide) (pick_cons rfl pick_nil) (hK19 (r20.1, r20.2) hp)
  replace hp := (br_f h6).symm.trans hp
  refine cx_exit' ?_
  replace hp := Option.some.inj hp
  subst hp
  show TX E (Zg E (Exit.exit 0) _ (Exit.exit 0)) _
  exact tx_zend' () rfl [] sub_nil (by decide) pick_nil
 rcases y1 with v6 | v7
 ·dsimp only at hp
  refine zg_out fun w6 => ?_
  replace hp := Option.some.inj hp
  subst hp
  refine tx_pick' (L' := [(4, (Vb false))]) (H' := []) [] (sub_cons rfl sub_nil) (by decide) pick_nil ?_
  exact tx_ret1' Try.results13 rfl () (rv_tmp' rfl) (List.Sublist.refl _)
 dsimp only at hp
 refine zg_out fun w7 => ?_
 show TX E K2 _
 refine tx_k' hK2 ?_
 refine cr fun K24 hK24 => ?_
 refine s0 (rd_assign' rfl) ?_
 refine nk hK24 ?_
 refine cx_retc' ?_
 replace hp := Option.some.inj hp
 subst hp
 refine tx_pick' (L' := [(4, (Vb true))]) (H' := []) [] (sub_cons rfl sub_nil) (by decide) pick_nil ?_
 exact tx_ret1' Try.results13 rfl () (rv_tmp' rfl) (List.Sublist.refl _)

def laws_FnKGrown_l1s (a0 : List (List Nat)) (a1 : Bool) (k : Nat) (rec1 : ((List ((List Nat) × Int × Int × Int × (List Nat) × (List Nat))) × Int × Int) → Option (Unit ⊕ ((List ((List Nat) × Int × Int × Int × (List Nat) × (List Nat))) × Int))) (x3 : List ((List Nat) × Int × Int × Int × (List Nat) × (List Nat))) (x4 : Int) (x5 : Int) : Option (Unit ⊕ ((List ((List Nat) × Int × Int × Int × (List Nat) × (List Nat))) × Int)) :=
 br (decide (x5 < (a0.length : Int)))
  ((idx a0 x5) >>= fun r39 =>
  (impl_KInsert_v2 k x3 x4 r39 a1) >>= fun r46 =>
  br (!r46.2.2)
   (some (.inl ()))
   (rec1 (r46.1, r46.2.1, (iadd .i64 x5 1))))
  (some (.inr (x3, x4)))
def laws_FnKGrown_l1 (a0 : List (List Nat)) (a1 : Bool) : Nat → ((List ((List Nat) × Int × Int × Int × (List Nat) × (List Nat))) × Int × Int) → Option (Unit ⊕ ((List ((List Nat) × Int × Int × Int × (List Nat) × (List Nat))) × Int))
 | 0, _ => none
 | k + 1, v => laws_FnKGrown_l1s a0 a1 k (laws_FnKGrown_l1 a0 a1 k) v.1 v.2.1 v.2.2
def laws_FnKGrown_l2s (r86 : (List Int) × (List Int) × Bool) (v5 : (List ((List Nat) × Int × Int × Int × (List Nat) × (List Nat))) × Int) (r54 : List Nat) (k : Nat) (rec2 : Int → Option (Unit ⊕ Unit)) (x11 : Int) : Option (Unit ⊕ Unit) :=
 br (decide (x11 < (r86.1.length : Int)))
  ((idx r86.1 x11) >>= fun r95 =>
  (idx v5.1 r95) >>= fun r99 =>
  (idx r86.2.1 x11) >>= fun r104 =>
  (irem r104 (r54.length : Int)) >>= fun r107 =>
  br (!decide (r99.2.1 = r107))
   (some (.inl ()))
   (rec2 (iadd .i64 x11 1)))
  (some (.inr ()))
def laws_FnKGrown_l2 (r86 : (List Int) × (List Int) × Bool) (v5 : (List ((List Nat) × Int × Int × Int × (List Nat) × (List Nat))) × Int) (r54 : List Nat) : Nat → Int → Option (Unit ⊕ Unit)
 | 0, _ => none
 | k + 1, v => laws_FnKGrown_l2s r86 v5 r54 k (laws_FnKGrown_l2 r86 v5 r54 k) v
def laws_FnKGrown_j5 (k : Nat) (v5 : (List ((List Nat) × Int × Int × Int × (List Nat) × (List Nat))) × Int) (r54 : List Nat) (x10 : Bool) : Option (Bool) :=
 br x10
  (some false)
  ((spec_KWalk k v5.1 v5.2) >>= fun r86 =>
  (laws_FnKGrown_l2 r86 v5 r54 k 0) >>= fun y2 => match y2 with
   | (.inl v10) =>
    (some false)
   | (.inr v11) =>
    (some true))
def laws_FnKGrown_j4 (k : Nat) (v5 : (List ((List Nat) × Int × Int × Int × (List Nat) × (List Nat))) × Int) (r54 : List Nat) (a1 : Bool) (x9 : Bool) : Option (Bool) :=
 br x9
  (laws_FnKGrown_j5 k v5 r54 true)
  ((laws_boxed k v5.1 a1) >>= fun r80 =>
  laws_FnKGrown_j5 k v5 r54 (!r80))
def laws_FnKGrown_j3 (k : Nat) (v5 : (List ((List Nat) × Int × Int × Int × (List Nat) × (List Nat))) × Int) (r54 : List Nat) (a1 : Bool) (a0 : List (List Nat)) (x8 : Bool) : Option (Bool) :=
 br x8
  (laws_FnKGrown_j4 k v5 r54 a1 true)
  ((spec_KPoints k v5.1 v5.2) >>= fun r72 =>
  (spec_SamePoints k r72 a0) >>= fun r74 =>
  laws_FnKGrown_j4 k v5 r54 a1 (!r74))
def laws_FnKGrown_j2 (k : Nat) (a0 : List (List Nat)) (a1 : Bool) (x2 : Bool) : Option (Bool) :=
 br x2
  (some true)
  ((laws_FnKGrown_l1 a0 a1 k ([], (-1), 0)) >>= fun y1 => match y1 with
   | (.inl v4) =>
    (some false)
   | (.inr v5) =>
    ((idx a0 0) >>= fun r54 =>
    (spec_IsK k v5.1 v5.2 (r54.length : Int)) >>= fun r60 =>
    br (!r60)
     (laws_FnKGrown_j3 k v5 r54 a1 a0 true)
     (laws_FnKGrown_j3 k v5 r54 a1 a0 (!decide ((v5.1.length : Int) = (a0.length : Int))))))
def laws_FnKGrown_j1 (k : Nat) (a0 : List (List Nat)) (a1 : Bool) (x1 : Bool) : Option (Bool) :=
 br x1
  (laws_FnKGrown_j2 k a0 a1 true)
  ((idx a0 0) >>= fun r30 =>
  (laws_some k a0 r30) >>= fun r32 =>
  laws_FnKGrown_j2 k a0 a1 (!r32))
def laws_FnKGrown (k : Nat) (a0 : List (List Nat)) (a1 : Bool) : Option (Bool) :=
 (laws_zzFits4 k a0) >>= fun r17 =>
 br (!r17)
  (some true)
  (br (decide ((a0.length : Int) = 0))
   (laws_FnKGrown_j1 k a0 a1 true)
   (laws_FnKGrown_j1 k a0 a1 (decide (60 < (a0.length : Int)))))

theorem laws_FnKGrown_sim {k : Nat}  (a0 : List (List Nat)) (a1 : Bool) {out : Bool} (hp : laws_FnKGrown k a0 a1 = some out) : Sx.Fn Try.prog 3 [(Sl (Kl Kf) a0), (Vb a1)] [] (fun w : Unit => (Vb out)) (fun w => []) := by
 unfold laws_FnKGrown at hp
 refine fn_of Try.func3 rfl Try.ntmps3 rfl fun E hM => ?_
 refine cr fun K1 hK1 => ?_
 refine s0 (rd_assign' rfl) ?_
 refine nk hK1 ?_
 refine cx_seq' fun K2 hK2 => ?_
 refine cr fun K3 hK3 => ?_
 refine s0 (rd_move' rfl) ?_
 obtain ⟨r17, hr17, hp⟩ := bind_some hp
 refine sx_ox' (ox_calln' (ent_fn' Try.func7 isn7 rfl rfl) (laws_zzFits4_sim _ hr17 : Sx.Fn Try.prog 7 [(Sl (Kl Kf) a0)] [] (fun x : Unit => (Vb r17)) (fun x => [])) (Hn := fun x : Unit => []) (fun _ => rfl) rfl rfl) (wt_none' rfl) fun ⟨⟩ => ?_
 refine s0 (rd_un' rfl ru_not) ?_
 refine nk hK3 ?_
 refine cx_cond' rfl (fun h1 => ?_) (fun h1 => ?_)
 ·replace hp := (br_t h1).symm.trans hp
  refine cr fun K4 hK4 => ?_
  refine s0 (rd_assign' rfl) ?_
  refine nk hK4 ?_
  refine cx_retc' ?_
  replace hp := Option.some.inj hp
  subst hp
  refine tx_pick' (L' := [(4, (Vb true))]) (H' := []) [] (sub_cons rfl sub_nil) (by decide) pick_nil ?_
  exact tx_ret1' Try.results3 rfl () (rv_tmp' rfl) (List.Sublist.refl _)
 replace hp := (br_f h1).symm.trans hp
 refine cx_skip' ?_
 show TX E K2 _
 refine tx_k' hK2 ?_
 refine cx_seq' fun K5 hK5 => ?_
 refine cr fun K6 hK6 => ?_
 refine s0 (rd_move' rfl) ?_
 refine s0 (rd_len' rfl Try.underlying22) ?_
 refine s0 (rd_bin' rfl rfl eg_int ru_eql) ?_
 refine s0 (rd_move' rfl) ?_
 refine sx_cutn' 4 (fun (v1 : Bool) => (⟨110, [], [(0, (Sl (Kl Kf) a0)), (1, (Vb a1)), (26, (Vb v1))], []⟩ : St)) (fun (v1 : Bool) => laws_FnKGrown_j1 k a0 a1 v1 = some out) ?_ ?_
 ·rintro x1 hp
  replace hp : laws_FnKGrown_j1 k a0 a1 x1 = some out := hp
  unfold laws_FnKGrown_j1 at hp
  refine s0 (rd_move' rfl) ?_
  refine sx_cutn' 7 (fun (v2 : Bool) => (⟨110, [], [(0, (Sl (Kl Kf) a0)), (1, (Vb a1)), (34, (Vb v2))], []⟩ : St)) (fun (v2 : Bool) => laws_FnKGrown_j2 k a0 a1 v2 = some out) ?_ ?_
  ·rintro x2 hp
   replace hp : laws_FnKGrown_j2 k a0 a1 x2 = some out := hp
   unfold laws_FnKGrown_j2 at hp
   refine nk hK6 ?_
   refine cx_cond' rfl (fun h4 => ?_) (fun h4 => ?_)
   ·replace hp := (br_t h4).symm.trans hp
    refine cr fun K9 hK9 => ?_
    refine s0 (rd_assign' rfl) ?_
    refine nk hK9 ?_
    refine cx_retc' ?_
    replace hp := Option.some.inj hp
    subst hp
    refine tx_pick' (L' := [(4, (Vb true))]) (H' := []) [] (sub_cons rfl sub_nil) (by decide) pick_nil ?_
    exact tx_ret1' Try.results3 rfl () (rv_tmp' rfl) (List.Sublist.refl _)
   replace hp := (br_f h4).symm.trans hp
   refine cx_skip' ?_
   show TX E K5 _
   refine tx_k' hK5 ?_
   refine cr fun K10 hK10 => ?_
   refine s0 (rd_assign' rfl) ?_
   refine nk hK10 ?_
   refine cr fun K11 hK11 => ?_
   refine s0 (rd_assign' rfl) ?_
   refine s0 (rd_assign' rfl) ?_
   refine nk hK11 ?_
   refine cx_seq' fun K12 hK12 => ?_
   refine cr fun K13 hK13 => ?_
   refine s0 (rd_move' rfl) ?_
   refine s0 (rd_len' rfl Try.underlying22) ?_
   refine s0 (rd_move' rfl) ?_
   refine nk hK13 ?_
   refine cx_block' ?_
   obtain ⟨y1, hy1, hp⟩ := bind_some hp
   refine tx_slot' 5 (y := (Sl KT37 [])) rfl imp_nil ?_
   refine cx_loopg' (F := laws_FnKGrown_l1 a0 a1) (G := fun k R v => laws_FnKGrown_l1s a0 a1 k R v.1 v.2.1 v.2.2) (x := ([], (-1), 0)) (gh := ()) (fun (v3 : (List ((List Nat) × Int × Int × Int × (List Nat) × (List Nat))) × Int × Int) (w3 : Unit) => (⟨110, [], [(0, (Sl (Kl Kf) a0)), (1, (Vb a1)), (5, (Sl KT37 v3.1)), (6, (Vi v3.2.1)), (35, (Sl (Kl Kf) a0)), (36, (Vi (a0.length : Int))), (37, (Vi v3.2.2))], []⟩ : St)) (fun (y : Unit ⊕ ((List ((List Nat) × Int × Int × Int × (List Nat) × (List Nat))) × Int)) => match y with | (.inl v4) => Zg E Exit.ret (fun (w4 : Unit) => (⟨110, [], [(4, (Vb false))], []⟩ : St)) | (.inr v5) => Zg E (Exit.exit 0) (fun (w5 : Unit) => (⟨110, [], [(0, (Sl (Kl Kf) a0)), (1, (Vb a1)), (5, (Sl KT37 v5.1)), (6, (Vi v5.2))], []⟩ : St))) (fun _ => rfl) (fun _ _ => rfl) ?_ hy1 (tx_to' rfl [] (sub_cons rfl (sub_cons rfl (sub_cons rfl (sub_cons rfl (sub_cons rfl (sub_cons rfl (sub_cons rfl sub_nil))))))) (by decide) pick_nil) ?_
   ·clear hp hy1
    clear y1
    intro k rec1 KY1 ih1
    rintro ⟨x3, x4, x5⟩ ⟨⟩ y1 hp
    replace hp : laws_FnKGrown_l1s a0 a1 k rec1 x3 x4 x5 = some y1 := hp
    unfold laws_FnKGrown_l1s at hp
    refine cr fun K21 hK21 => ?_
    refine s0 (rd_bin' rfl rfl eg_int ru_lss) ?_
    refine nk hK21 ?_
    refine cx_seq' fun K22 hK22 => ?_
    refine cx_cond' rfl (fun h8 => ?_) (fun h8 => ?_)
    ·replace hp := (br_t h8).symm.trans hp
     refine cx_skip' ?_
     show TX E K22 _
     refine tx_k' hK22 ?_
     refine cx_seq' fun K23 hK23 => ?_
     refine cx_block' ?_
     refine cr fun K24 hK24 => ?_
     obtain ⟨r39, hr39, hp⟩ := bind_some hp
     refine s0 (rd_at' (K := (Kl Kf)) rfl rfl hr39 Try.underlying22 info25) ?_
     refine s0 (rd_load_pt' rfl rfl flat25) ?_
     refine s0 (rd_assign' rfl) ?_
     refine nk hK24 ?_
     refine cr fun K25 hK25 => ?_
     refine s0 (rd_move' rfl) ?_
     refine s0 (rd_move' rfl) ?_
     refine s0 (rd_move' rfl) ?_
     refine s0 (rd_move' rfl) ?_
     obtain ⟨r46, hr46, hp⟩ := bind_some hp
     refine sx_ox' (ox_calln' (ent_fn' Try.func9 isn9 rfl rfl) (impl_KInsert_v2_sim _ _ _ _ hr46 : Sx.Fn Try.prog 9 [(Sl KT37 x3), (Vi x4), (Sl Kf r39), (Vb a1)] [] (fun x : Unit => (Tu [(Sl KT37 r46.1), (Vi r46.2.1), (Vb r46.2.2)])) (fun x => [])) (Hn := fun x : Unit => []) (fun _ => rfl) rfl rfl) (wt_none' rfl) fun ⟨⟩ => ?_
     refine s0 (rd_move' rfl) ?_
     refine s0 (rd_extract' rfl rfl) ?_
     refine s0 (rd_extract' rfl rfl) ?_
     refine s0 (rd_extract' rfl rfl) ?_
     refine s0 (rd_assign' rfl) ?_
     refine s0 (rd_assign' rfl) ?_
     refine s0 (rd_assign' rfl) ?_
     refine nk hK25 ?_
     refine cr fun K26 hK26 => ?_
     refine s0 (rd_move' rfl) ?_
     refine s0 (rd_un' rfl ru_not) ?_
     refine nk hK26 ?_
     refine cx_cond' rfl (fun h9 => ?_) (fun h9 => ?_)
     ·replace hp := (br_t h9).symm.trans hp
      refine cr fun K27 hK27 => ?_
      refine s0 (rd_assign' rfl) ?_
      refine nk hK27 ?_
      refine cx_retc' ?_
      replace hp := Option.some.inj hp
      subst hp
      show TX E (Zg E Exit.ret _ Exit.ret) _
      exact tx_zend' () rfl [] (sub_cons rfl sub_nil) (by decide) pick_nil
     replace hp := (br_f h9).symm.trans hp
     refine cx_skip' ?_
     show TX E K23 _
     refine tx_k' hK23 ?_
     refine cx_region' ?_
     refine s0 (rd_bin' rfl rfl eg_int ru_add) ?_
     refine s0 (rd_move' rfl) ?_
     refine sx_nil' ?_
     show TX E (KY1 _) _
     exact tx_pick' [] (sub_cons rfl (sub_cons rfl (sub_cons rfl (sub_cons rfl (sub_cons rfl (sub_cons rfl (sub_cons rfl sub_nil))))))) (by decide) pick_nil (ih1 (r46.1, r46.2.1, (iadd .i64 x5 1)) () _ hp)
    replace hp := (br_f h8).symm.trans hp
    refine cx_exit' ?_
    replace hp := Option.some.inj hp
    subst hp
    show TX E (Zg E (Exit.exit 0) _ (Exit.exit 0)) _
    exact tx_zend' () rfl [] (sub_cons rfl (sub_cons rfl (sub_cons rfl (sub_cons rfl sub_nil)))) (by decide) pick_nil
   rcases y1 with v4 | v5
   ·dsimp only at hp
    refine zg_out fun w4 => ?_
    replace hp := Option.some.inj hp
    subst hp
    refine tx_pick' (L' := [(4, (Vb false))]) (H' := []) [] (sub_cons rfl sub_nil) (by decide) pick_nil ?_
    exact tx_ret1' Try.results3 rfl () (rv_tmp' rfl) (List.Sublist.refl _)
   dsimp only at hp
   refine zg_out fun w5 => ?_
   show TX E K12 _
   refine tx_k' hK12 ?_
   refine cr fun K28 hK28 => ?_
   refine s0 (rd_move' rfl) ?_
   obtain ⟨r54, hr54, hp⟩ := bind_some hp
   refine s0 (rd_at' (K := (Kl Kf)) rfl rfl hr54 Try.underlying22 info25) ?_
   refine s0 (rd_load_pt' rfl rfl flat25) ?_
   refine s0 (rd_len' rfl Try.underlying25) ?_
   refine s0 (rd_assign' rfl) ?_
   refine nk hK28 ?_
   refine cx_seq' fun K29 hK29 => ?_
   refine cr fun K30 hK30 => ?_
   refine s0 (rd_move' rfl) ?_
   refine s0 (rd_move' rfl) ?_
   refine s0 (rd_move' rfl) ?_
   obtain ⟨r60, hr60, hp⟩ := bind_some hp
   refine sx_ox' (ox_calln' (ent_fn' Try.func10 isn10 rfl rfl) (spec_IsK_sim _ _ _ hr60 : Sx.Fn Try.prog 10 [(Sl KT37 v5.1), (Vi v5.2), (Vi (r54.length : Int))] [] (fun x : Unit => (Vb r60)) (fun x => [])) (Hn := fun x : Unit => []) (fun _ => rfl) rfl rfl) (wt_none' rfl) fun ⟨⟩ => ?_
   refine s0 (rd_un' rfl ru_not) ?_
   refine s0 (rd_move' rfl) ?_
   refine sx_cutn' 6 (fun (v6 : Bool) => (⟨110, [], [(0, (Sl (Kl Kf) a0)), (1, (Vb a1)), (5, (Sl KT37 v5.1)), (6, (Vi v5.2)), (10, (Vi (r54.length : Int))), (68, (Vb v6))], []⟩ : St)) (fun (v6 : Bool) => laws_FnKGrown_j3 k v5 r54 a1 a0 v6 = some out) ?_ ?_
   ·rintro x8 hp
    replace hp : laws_FnKGrown_j3 k v5 r54 a1 a0 x8 = some out := hp
    unfold laws_FnKGrown_j3 at hp
    refine s0 (rd_move' rfl) ?_
    refine sx_cutn' 7 (fun (v7 : Bool) => (⟨110, [], [(1, (Vb a1)), (5, (Sl KT37 v5.1)), (6, (Vi v5.2)), (10, (Vi (r54.length : Int))), (76, (Vb v7))], []⟩ : St)) (fun (v7 : Bool) => laws_FnKGrown_j4 k v5 r54 a1 v7 = some out) ?_ ?_
    ·rintro x9 hp
     replace hp : laws_FnKGrown_j4 k v5 r54 a1 x9 = some out := hp
     unfold laws_FnKGrown_j4 at hp
     refine s0 (rd_move' rfl) ?_
     refine sx_cutn' 5 (fun (v8 : Bool) => (⟨110, [], [(5, (Sl KT37 v5.1)), (6, (Vi v5.2)), (10, (Vi (r54.length : Int))), (82, (Vb v8))], []⟩ : St)) (fun (v8 : Bool) => laws_FnKGrown_j5 k v5 r54 v8 = some out) ?_ ?_
     ·rintro x10 hp
      replace hp : laws_FnKGrown_j5 k v5 r54 x10 = some out := hp
      unfold laws_FnKGrown_j5 at hp
      refine nk hK30 ?_
      refine cx_cond' rfl (fun h13 => ?_) (fun h13 => ?_)
      ·replace hp := (br_t h13).symm.trans hp
       refine cr fun K34 hK34 => ?_
       refine s0 (rd_assign' rfl) ?_
       refine nk hK34 ?_
       refine cx_retc' ?_
       replace hp := Option.some.inj hp
       subst hp
       refine tx_pick' (L' := [(4, (Vb false))]) (H' := []) [] (sub_cons rfl sub_nil) (by decide) pick_nil ?_
       exact tx_ret1' Try.results3 rfl () (rv_tmp' rfl) (List.Sublist.refl _)
      replace hp := (br_f h13).symm.trans hp
      refine cx_skip' ?_
      show TX E K29 _
      refine tx_k' hK29 ?_
      refine cr fun K35 hK35 => ?_
      refine s0 (rd_move' rfl) ?_
      refine s0 (rd_move' rfl) ?_
      obtain ⟨r86, hr86, hp⟩ := bind_some hp
      refine sx_ox' (ox_calln' (ent_fn' Try.func14 isn14 rfl rfl) (spec_KWalk_sim _ _ hr86 : Sx.Fn Try.prog 14 [(Sl KT37 v5.1), (Vi v5.2)] [] (fun x : Unit => (Tu [(Sl (Ki .i64) r86.1), (Sl (Ki .i64) r86.2.1), (Vb r86.2.2)])) (fun x => [])) (Hn := fun x : Unit => []) (fun _ => rfl) rfl rfl) (wt_none' rfl) fun ⟨⟩ => ?_
      refine s0 (rd_move' rfl) ?_
      refine s0 (rd_extract' rfl rfl) ?_
      refine s0 (rd_extract' rfl rfl) ?_
      refine s0 (rd_extract' rfl rfl) ?_
      refine s0 (rd_assign' rfl) ?_
      refine s0 (rd_assign' rfl) ?_
      refine s0 (rd_assign' rfl) ?_
      refine nk hK35 ?_
      refine cx_seq' fun K36 hK36 => ?_
      refine cr fun K37 hK37 => ?_
      refine s0 (rd_move' rfl) ?_
      refine s0 (rd_len' rfl Try.underlying33) ?_
      refine s0 (rd_move' rfl) ?_
      refine nk hK37 ?_
      refine cx_block' ?_
      obtain ⟨y2, hy2, hp⟩ := bind_some hp
      refine cx_loopg' (F := laws_FnKGrown_l2 r86 v5 r54) (G := fun k R v => laws_FnKGrown_l2s r86 v5 r54 k R v) (x := 0) (gh := ()) (fun (v9 : Int) (w9 : Unit) => (⟨110, [], [(5, (Sl KT37 v5.1)), (10, (Vi (r54.length : Int))), (12, (Sl (Ki .i64) r86.2.1)), (90, (Sl (Ki .i64) r86.1)), (91, (Vi (r86.1.length : Int))), (92, (Vi v9))], []⟩ : St)) (fun (y : Unit ⊕ Unit) => match y with | (.inl v10) => Zg E Exit.ret (fun (w10 : Unit) => (⟨110, [], [(4, (Vb false))], []⟩ : St)) | (.inr v11) => Zg E (Exit.exit 2) (fun (w11 : Unit) => (⟨110, [], [], []⟩ : St))) (fun _ => rfl) (fun _ _ => rfl) ?_ hy2 (tx_to' rfl [] (sub_cons rfl (sub_cons rfl (sub_cons rfl (sub_cons rfl (sub_cons rfl (sub_cons rfl sub_nil)))))) (by decide) pick_nil) ?_
      ·clear hp hy2
       clear y2
       intro k rec2 KY2 ih2
       rintro x11 ⟨⟩ y2 hp
       replace hp : laws_FnKGrown_l2s r86 v5 r54 k rec2 x11 = some y2 := hp
       unfold laws_FnKGrown_l2s at hp
       refine cr fun K44 hK44 => ?_
       refine s0 (rd_bin' rfl rfl eg_int ru_lss) ?_
       refine nk hK44 ?_
       refine cx_seq' fun K45 hK45 => ?_
       refine cx_cond' rfl (fun h17 => ?_) (fun h17 => ?_)
       ·replace hp := (br_t h17).symm.trans hp
        refine cx_skip' ?_
        show TX E K45 _
        refine tx_k' hK45 ?_
        refine cx_seq' fun K46 hK46 => ?_
        refine cx_block' ?_
        refine cr fun K47 hK47 => ?_
        refine s0 (rd_move' rfl) ?_
        obtain ⟨r95, hr95, hp⟩ := bind_some hp
        refine s0 (rd_at' (K := (Ki .i64)) rfl rfl hr95 Try.underlying33 info3) ?_
        refine s0 (rd_load_pt' rfl rfl flat3) ?_
        refine s0 (rd_assign' rfl) ?_
        refine s0 (rd_assign' rfl) ?_
        refine nk hK47 ?_
        refine cx_seq' fun K48 hK48 => ?_
        refine cx_draw' mixed (by kernel_rfl) ?_
        refine qx_rd' (rd_move' rfl) rfl rfl (wt_none' rfl) ?_
        refine qx_rd' (rd_move' rfl) rfl rfl (wt_none' rfl) ?_
        obtain ⟨r99, hr99, hp⟩ := bind_some hp
        refine qx_rd' (rd_at' (K := KT37) rfl rfl hr99 Try.underlying26 info37) rfl rfl (wt_none' rfl) ?_
        refine qx_rd' (rd_field_pt' (off := 1) rfl Try.underlying37 rfl info3 rfl (l' := [(Vi r99.2.1), (Vi r99.2.2.1), (Vi r99.2.2.2.1), (Sl Kf r99.2.2.2.2.1), (Sl Kf r99.2.2.2.2.2)]) rfl) rfl rfl (wt_none' rfl) ?_
        refine qx_rd' (rd_load_pt' rfl rfl flat3) rfl rfl (wt_none' rfl) ?_
        refine qx_rd' (rd_move' rfl) rfl rfl (wt_none' rfl) ?_
        refine qx_rd' (rd_move' rfl) rfl rfl (wt_none' rfl) ?_
        obtain ⟨r104, hr104, hp⟩ := bind_some hp
        refine qx_rd' (rd_at' (K := (Ki .i64)) rfl rfl hr104 Try.underlying33 info3) rfl rfl (wt_none' rfl) ?_
        refine qx_rd' (rd_load_pt' rfl rfl flat3) rfl rfl (wt_none' rfl) ?_
        refine qx_rd' (rd_move' rfl) rfl rfl (wt_none' rfl) ?_
        obtain ⟨r107, hr107, hp⟩ := bind_some hp
        refine qx_rd' (rd_bin' rfl rfl eg_int (ru_rem hr107)) rfl rfl (wt_none' rfl) ?_
        refine qx_rd' (rd_bin' rfl rfl eg_int ru_neq) rfl rfl (wt_none' rfl) ?_
        refine qx_nil' ?_
        show TX E K48 _
        refine tx_k' hK48 ?_
        refine cx_cond' rfl (fun h18 => ?_) (fun h18 => ?_)
        ·replace hp := (br_t h18).symm.trans hp
         refine cr fun K49 hK49 => ?_
         refine s0 (rd_assign' rfl) ?_
         refine nk hK49 ?_
         refine cx_retc' ?_
         replace hp := Option.some.inj hp
         subst hp
         show TX E (Zg E Exit.ret _ Exit.ret) _
         exact tx_zend' () rfl [] (sub_cons rfl sub_nil) (by decide) pick_nil
        replace hp := (br_f h18).symm.trans hp
        refine cx_skip' ?_
        show TX E K46 _
        refine tx_k' hK46 ?_
        refine cx_region' ?_
        refine s0 (rd_bin' rfl rfl eg_int ru_add) ?_
        refine s0 (rd_move' rfl) ?_
        refine sx_nil' ?_
        show TX E (KY2 _) _
        exact tx_pick' [] (sub_cons rfl (sub_cons rfl (sub_cons rfl (sub_cons rfl (sub_cons rfl (sub_cons rfl sub_nil)))))) (by decide) pick_nil (ih2 (iadd .i64 x11 1) () _ hp)
       replace hp := (br_f h17).symm.trans hp
       refine cx_exit' ?_
       replace hp := Option.some.inj hp
       subst hp
       show TX E (Zg E (Exit.exit 2) _ (Exit.exit 2)) _
       exact tx_zend' () rfl [] sub_nil (by decide) pick_nil
      rcases y2 with v10 | v11
      ·dsimp only at hp
       refine zg_out fun w10 => ?_
       replace hp := Option.some.inj hp
       subst hp
       refine tx_pick' (L' := [(4, (Vb false))]) (H' := []) [] (sub_cons rfl sub_nil) (by decide) pick_nil ?_
       exact tx_ret1' Try.results3 rfl () (rv_tmp' rfl) (List.Sublist.refl _)
      dsimp only at hp
      refine zg_out fun w11 => ?_
      show TX E K36 _
      refine tx_k' hK36 ?_
      refine cr fun K50 hK50 => ?_
      refine s0 (rd_assign' rfl) ?_
      refine nk hK50 ?_
      refine cx_retc' ?_
      replace hp := Option.some.inj hp
      subst hp
      refine tx_pick' (L' := [(4, (Vb true))]) (H' := []) [] (sub_cons rfl sub_nil) (by decide) pick_nil ?_
      exact tx_ret1' Try.results3 rfl () (rv_tmp' rfl) (List.Sublist.refl _)
     intro K33 hK33
     rcases br_cases hp with ⟨h12, hp⟩ | ⟨h12, hp⟩
     ·refine sx_skip' rfl rfl (wt_is' (wt_guard' rfl rfl rfl) (beq_tf h12)) ?_
      refine sx_skip' rfl rfl (wt_is' (wt_guard' rfl rfl rfl) (beq_tf h12)) ?_
      refine sx_skip' rfl rfl (wt_is' (wt_guard' rfl rfl rfl) (beq_tf h12)) ?_
      refine sx_skip' rfl rfl (wt_is' (wt_guard' rfl rfl rfl) (beq_tf h12)) ?_
      refine s0 (rd_pick_true' rfl h12 rfl) ?_
      refine sx_nil' ?_
      show TX E K33 _
      exact tx_pick' [] (sub_cons rfl (sub_cons rfl (sub_cons rfl (sub_cons rfl sub_nil)))) (by decide) pick_nil (hK33 true hp)
     refine sx_rd' (rd_move' rfl) rfl rfl (wt_is' (wt_guard' rfl rfl rfl) (beq_ff h12)) ?_
     refine sx_rd' (rd_move' rfl) rfl rfl (wt_is' (wt_guard' rfl rfl rfl) (beq_ff h12)) ?_
     obtain ⟨r80, hr80, hp⟩ := bind_some hp
     refine sx_ox' (ox_calln' (ent_fn' Try.func13 isn13 rfl rfl) (laws_boxed_sim _ _ hr80 : Sx.Fn Try.prog 13 [(Sl KT37 v5.1), (Vb a1)] [] (fun x : Unit => (Vb r80)) (fun x => [])) (Hn := fun x : Unit => []) (fun _ => rfl) rfl rfl) (wt_is' (wt_guard' rfl rfl rfl) (beq_ff h12)) fun ⟨⟩ => ?_
     refine sx_rd' (rd_un' rfl ru_not) rfl rfl (wt_is' (wt_guard' rfl rfl rfl) (beq_ff h12)) ?_
     refine s0 (rd_pick_false' rfl h12 rfl) ?_
     refine sx_nil' ?_
     show TX E K33 _
     exact tx_pick' [] (sub_cons rfl (sub_cons rfl (sub_cons rfl (sub_cons rfl sub_nil)))) (by decide) pick_nil (hK33 (!r80) hp)
    intro K32 hK32
    rcases br_cases hp with ⟨h11, hp⟩ | ⟨h11, hp⟩
    ·refine sx_skip' rfl rfl (wt_is' (wt_guard' rfl rfl rfl) (beq_tf h11)) ?_
     refine sx_skip' rfl rfl (wt_is' (wt_guard' rfl rfl rfl) (beq_tf h11)) ?_
     refine sx_skip' rfl rfl (wt_is' (wt_guard' rfl rfl rfl) (beq_tf h11)) ?_
     refine sx_skip' rfl rfl (wt_is' (wt_guard' rfl rfl rfl) (beq_tf h11)) ?_
     refine sx_skip' rfl rfl (wt_is' (wt_guard' rfl rfl rfl) (beq_tf h11)) ?_
     refine sx_skip' rfl rfl (wt_is' (wt_guard' rfl rfl rfl) (beq_tf h11)) ?_
     refine s0 (rd_pick_true' rfl h11 rfl) ?_
     refine sx_nil' ?_
     show TX E K32 _
     exact tx_pick' [] (sub_cons rfl (sub_cons rfl (sub_cons rfl (sub_cons rfl (sub_cons rfl sub_nil))))) (by decide) pick_nil (hK32 true hp)
    refine sx_rd' (rd_move' rfl) rfl rfl (wt_is' (wt_guard' rfl rfl rfl) (beq_ff h11)) ?_
    refine sx_rd' (rd_move' rfl) rfl rfl (wt_is' (wt_guard' rfl rfl rfl) (beq_ff h11)) ?_
    obtain ⟨r72, hr72, hp⟩ := bind_some hp
    refine sx_ox' (ox_calln' (ent_fn' Try.func12 isn12 rfl rfl) (spec_KPoints_sim _ _ hr72 : Sx.Fn Try.prog 12 [(Sl KT37 v5.1), (Vi v5.2)] [] (fun x : Unit => (Sl (Kl Kf) r72)) (fun x => [])) (Hn := fun x : Unit => []) (fun _ => rfl) rfl rfl) (wt_is' (wt_guard' rfl rfl rfl) (beq_ff h11)) fun ⟨⟩ => ?_
    refine sx_rd' (rd_move' rfl) rfl rfl (wt_is' (wt_guard' rfl rfl rfl) (beq_ff h11)) ?_
    obtain ⟨r74, hr74, hp⟩ := bind_some hp
    refine sx_ox' (ox_calln' (ent_fn' Try.func11 isn11 rfl rfl) (spec_SamePoints_sim _ _ hr74 : Sx.Fn Try.prog 11 [(Sl (Kl Kf) r72), (Sl (Kl Kf) a0)] [] (fun x : Unit => (Vb r74)) (fun x => [])) (Hn := fun x : Unit => []) (fun _ => rfl) rfl rfl) (wt_is' (wt_guard' rfl rfl rfl) (beq_ff h11)) fun ⟨⟩ => ?_
    refine sx_rd' (rd_un' rfl ru_not) rfl rfl (wt_is' (wt_guard' rfl rfl rfl) (beq_ff h11)) ?_
    refine s0 (rd_pick_false' rfl h11 rfl) ?_
    refine sx_nil' ?_
    show TX E K32 _
    exact tx_pick' [] (sub_cons rfl (sub_cons rfl (sub_cons rfl (sub_cons rfl (sub_cons rfl sub_nil))))) (by decide) pick_nil (hK32 (!r74) hp)
   intro K31 hK31
   rcases br_cases hp with ⟨h10, hp⟩ | ⟨h10, hp⟩
   ·refine sx_skip' rfl rfl (wt_is' (wt_guard' rfl rfl rfl) (beq_tf h10)) ?_
    refine sx_skip' rfl rfl (wt_is' (wt_guard' rfl rfl rfl) (beq_tf h10)) ?_
    refine sx_skip' rfl rfl (wt_is' (wt_guard' rfl rfl rfl) (beq_tf h10)) ?_
    refine sx_skip' rfl rfl (wt_is' (wt_guard' rfl rfl rfl) (beq_tf h10)) ?_
    refine sx_skip' rfl rfl (wt_is' (wt_guard' rfl rfl rfl) (beq_tf h10)) ?_
    refine s0 (rd_pick_true' rfl h10 rfl) ?_
    refine sx_nil' ?_
    show TX E K31 _
    exact tx_pick' [] (sub_cons rfl (sub_cons rfl (sub_cons rfl (sub_cons rfl (sub_cons rfl (sub_cons rfl sub_nil)))))) (by decide) pick_nil (hK31 true hp)
   refine sx_rd' (rd_move' rfl) rfl rfl (wt_is' (wt_guard' rfl rfl rfl) (beq_ff h10)) ?_
   refine sx_rd' (rd_len' rfl Try.underlying26) rfl rfl (wt_is' (wt_guard' rfl rfl rfl) (beq_ff h10)) ?_
   refine sx_rd' (rd_move' rfl) rfl rfl (wt_is' (wt_guard' rfl rfl rfl) (beq_ff h10)) ?_
   refine sx_rd' (rd_len' rfl Try.underlying22) rfl rfl (wt_is' (wt_guard' rfl rfl rfl) (beq_ff h10)) ?_
   refine sx_rd' (rd_bin' rfl rfl eg_int ru_neq) rfl rfl (wt_is' (wt_guard' rfl rfl rfl) (beq_ff h10)) ?_
   refine s0 (rd_pick_false' rfl h10 rfl) ?_
   refine sx_nil' ?_
   show TX E K31 _
   exact tx_pick' [] (sub_cons rfl (sub_cons rfl (sub_cons rfl (sub_cons rfl (sub_cons rfl (sub_cons rfl sub_nil)))))) (by decide) pick_nil (hK31 (!decide ((v5.1.length : Int) = (a0.length : Int))) hp)
  intro K8 hK8
  rcases br_cases hp with ⟨h3, hp⟩ | ⟨h3, hp⟩
  ·refine sx_skip' rfl rfl (wt_is' (wt_guard' rfl rfl rfl) (beq_tf h3)) ?_
   refine sx_skip' rfl rfl (wt_is' (wt_guard' rfl rfl rfl) (beq_tf h3)) ?_
   refine sx_skip' rfl rfl (wt_is' (wt_guard' rfl rfl rfl) (beq_tf h3)) ?_
   refine sx_skip' rfl rfl (wt_is' (wt_guard' rfl rfl rfl) (beq_tf h3)) ?_
   refine sx_skip' rfl rfl (wt_is' (wt_guard' rfl rfl rfl) (beq_tf h3)) ?_
   refine sx_skip' rfl rfl (wt_is' (wt_guard' rfl rfl rfl) (beq_tf h3)) ?_
   refine s0 (rd_pick_true' rfl h3 rfl) ?_
   refine sx_nil' ?_
   show TX E K8 _
   exact tx_pick' [] (sub_cons rfl (sub_cons rfl (sub_cons rfl sub_nil))) (by decide) pick_nil (hK8 true hp)
  refine sx_rd' (rd_move' rfl) rfl rfl (wt_is' (wt_guard' rfl rfl rfl) (beq_ff h3)) ?_
  refine sx_rd' (rd_move' rfl) rfl rfl (wt_is' (wt_guard' rfl rfl rfl) (beq_ff h3)) ?_
  obtain ⟨r30, hr30, hp⟩ := bind_some hp
  refine sx_rd' (rd_at' (K := (Kl Kf)) rfl rfl hr30 Try.underlying22 info25) rfl rfl (wt_is' (wt_guard' rfl rfl rfl) (beq_ff h3)) ?_
  refine sx_rd' (rd_load_pt' rfl rfl flat25) rfl rfl (wt_is' (wt_guard' rfl rfl rfl) (beq_ff h3)) ?_
  obtain ⟨r32, hr32, hp⟩ := bind_some hp
  refine sx_ox' (ox_calln' (ent_fn' Try.func8 isn8 rfl rfl) (laws_some_sim _ _ hr32 : Sx.Fn Try.prog 8 [(Sl (Kl Kf) a0), (Sl Kf r30)] [] (fun x : Unit => (Vb r32)) (fun x => [])) (Hn := fun x : Unit => []) (fun _ => rfl) rfl rfl) (wt_is' (wt_guard' rfl rfl rfl) (beq_ff h3)) fun ⟨⟩ => ?_
  refine sx_rd' (rd_un' rfl ru_not) rfl rfl (wt_is' (wt_guard' rfl rfl rfl) (beq_ff h3)) ?_
  refine s0 (rd_pick_false' rfl h3 rfl) ?_
  refine sx_nil' ?_
  show TX E K8 _
  exact tx_pick' [] (sub_cons rfl (sub_cons rfl (sub_cons rfl sub_nil))) (by decide) pick_nil (hK8 (!r32) hp)
 intro K7 hK7
 rcases br_cases hp with ⟨h2, hp⟩ | ⟨h2, hp⟩
 ·refine sx_skip' rfl rfl (wt_is' (wt_guard' rfl rfl rfl) (beq_tf h2)) ?_
  refine sx_skip' rfl rfl (wt_is' (wt_guard' rfl rfl rfl) (beq_tf h2)) ?_
  refine sx_skip' rfl rfl (wt_is' (wt_guard' rfl rfl rfl) (beq_tf h2)) ?_
  refine s0 (rd_pick_true' rfl h2 rfl) ?_
  refine sx_nil' ?_
  show TX E K7 _
  exact tx_pick' [] (sub_cons rfl (sub_cons rfl (sub_cons rfl sub_nil))) (by decide) pick_nil (hK7 true hp)
 refine sx_rd' (rd_move' rfl) rfl rfl (wt_is' (wt_guard' rfl rfl rfl) (beq_ff h2)) ?_
 refine sx_rd' (rd_len' rfl Try.underlying22) rfl rfl (wt_is' (wt_guard' rfl rfl rfl) (beq_ff h2)) ?_
 refine sx_rd' (rd_bin' rfl rfl eg_int ru_gtr) rfl rfl (wt_is' (wt_guard' rfl rfl rfl) (beq_ff h2)) ?_
 refine s0 (rd_pick_false' rfl h2 rfl) ?_
 refine sx_nil' ?_
 show TX E K7 _
 exact tx_pick' [] (sub_cons rfl (sub_cons rfl (sub_cons rfl sub_nil))) (by decide) pick_nil (hK7 (decide (60 < (a0.length : Int))) hp)

end Go.Proofs.Ytjgpiealnfbkcaa
