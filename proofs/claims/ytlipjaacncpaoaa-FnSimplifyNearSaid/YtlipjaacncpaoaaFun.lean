/-
  Plain functions for the Go functions that this law reaches, and that each call does what its plain function says. Printed by a program of ours.
-/
import Derived.Test.YtlipjaacncpaoaaProg
import Derived.Test.YtlipjaacncpaoaaSxX
import Derived.Test.YtlipjaacncpaoaaFun1
namespace Go.Proofs.Ytlipjaacncpaoaa
open Go.Sx
set_option linter.unusedVariables false
set_option maxRecDepth 100000

def spec_SquareTo_j1 (k : Nat) (a1_0 : Bool) (a1_1 : List Int) (a1_2 : Int) (a1_3 : Bool) (a1_4 : List Int) (a1_5 : Int) (a0_0 : Bool) (a0_1 : List Int) (a0_2 : Int) (a0_3 : Bool) (a0_4 : List Int) (a0_5 : Int) (r19 : Bool × (List Int) × Int) (r18 : Bool × (List Int) × Int) (r13 : Bool × (List Int) × Int) (a2_0 : Bool) (a2_1 : List Int) (a2_2 : Int) (a2_3 : Bool) (a2_4 : List Int) (a2_5 : Int) (x1 : Bool) : Option (Bool × (List Int) × Int × Bool × (List Int) × Int) :=
 br x1
  ((spec_Square k a1_0 a1_1 a1_2 a1_3 a1_4 a1_5 a0_0 a0_1 a0_2 a0_3 a0_4 a0_5) >>= fun r31 =>
  some (r31.1, r31.2.1, r31.2.2, r19.1, r19.2.1, r19.2.2))
  ((spec_Dyadic_Cmp k r18.1 r18.2.1 r18.2.2 r13.1 r13.2.1 r13.2.2) >>= fun r37 =>
  br (decide (0 ≤ r37))
   ((spec_Square k a2_0 a2_1 a2_2 a2_3 a2_4 a2_5 a0_0 a0_1 a0_2 a0_3 a0_4 a0_5) >>= fun r41 =>
   some (r41.1, r41.2.1, r41.2.2, r19.1, r19.2.1, r19.2.2))
   ((spec_Cross k a1_0 a1_1 a1_2 a1_3 a1_4 a1_5 a2_0 a2_1 a2_2 a2_3 a2_4 a2_5 a0_0 a0_1 a0_2 a0_3 a0_4 a0_5) >>= fun r47 =>
   (spec_Dyadic_Mul k r47.1 r47.2.1 r47.2.2 r47.1 r47.2.1 r47.2.2) >>= fun r50 =>
   some (r50.1, r50.2.1, r50.2.2, r13.1, r13.2.1, r13.2.2)))
def spec_SquareTo (k : Nat) (a0_0 : Bool) (a0_1 : List Int) (a0_2 : Int) (a0_3 : Bool) (a0_4 : List Int) (a0_5 : Int) (a1_0 : Bool) (a1_1 : List Int) (a1_2 : Int) (a1_3 : Bool) (a1_4 : List Int) (a1_5 : Int) (a2_0 : Bool) (a2_1 : List Int) (a2_2 : Int) (a2_3 : Bool) (a2_4 : List Int) (a2_5 : Int) : Option (Bool × (List Int) × Int × Bool × (List Int) × Int) :=
 (spec_Square k a1_0 a1_1 a1_2 a1_3 a1_4 a1_5 a2_0 a2_1 a2_2 a2_3 a2_4 a2_5) >>= fun r13 =>
 (spec_Dot k a1_0 a1_1 a1_2 a1_3 a1_4 a1_5 a2_0 a2_1 a2_2 a2_3 a2_4 a2_5 a1_0 a1_1 a1_2 a1_3 a1_4 a1_5 a0_0 a0_1 a0_2 a0_3 a0_4 a0_5) >>= fun r18 =>
 (spec_IntOf k 1) >>= fun r19 =>
 (spec_Dyadic_Sign k r13.1 r13.2.1 r13.2.2) >>= fun r22 =>
 br (decide (r22 = 0))
  (spec_SquareTo_j1 k a1_0 a1_1 a1_2 a1_3 a1_4 a1_5 a0_0 a0_1 a0_2 a0_3 a0_4 a0_5 r19 r18 r13 a2_0 a2_1 a2_2 a2_3 a2_4 a2_5 true)
  ((spec_Dyadic_Sign k r18.1 r18.2.1 r18.2.2) >>= fun r26 =>
  spec_SquareTo_j1 k a1_0 a1_1 a1_2 a1_3 a1_4 a1_5 a0_0 a0_1 a0_2 a0_3 a0_4 a0_5 r19 r18 r13 a2_0 a2_1 a2_2 a2_3 a2_4 a2_5 (decide (r26 ≤ 0)))

theorem spec_SquareTo_sim {k : Nat}  (a0_0 : Bool) (a0_1 : List Int) (a0_2 : Int) (a0_3 : Bool) (a0_4 : List Int) (a0_5 : Int) (a1_0 : Bool) (a1_1 : List Int) (a1_2 : Int) (a1_3 : Bool) (a1_4 : List Int) (a1_5 : Int) (a2_0 : Bool) (a2_1 : List Int) (a2_2 : Int) (a2_3 : Bool) (a2_4 : List Int) (a2_5 : Int) {out : Bool × (List Int) × Int × Bool × (List Int) × Int} (hp : spec_SquareTo k a0_0 a0_1 a0_2 a0_3 a0_4 a0_5 a1_0 a1_1 a1_2 a1_3 a1_4 a1_5 a2_0 a2_1 a2_2 a2_3 a2_4 a2_5 = some out) : Sx.Fn Try.prog 72 [(Ag [(Vb a0_0), (Sl (Ki .u32) a0_1), (Vi a0_2), (Vb a0_3), (Sl (Ki .u32) a0_4), (Vi a0_5)]), (Ag [(Vb a1_0), (Sl (Ki .u32) a1_1), (Vi a1_2), (Vb a1_3), (Sl (Ki .u32) a1_4), (Vi a1_5)]), (Ag [(Vb a2_0), (Sl (Ki .u32) a2_1), (Vi a2_2), (Vb a2_3), (Sl (Ki .u32) a2_4), (Vi a2_5)])] [] (fun w : Unit => (Ag [(Vb out.1), (Sl (Ki .u32) out.2.1), (Vi out.2.2.1), (Vb out.2.2.2.1), (Sl (Ki .u32) out.2.2.2.2.1), (Vi out.2.2.2.2.2)])) (fun w => []) := by
 unfold spec_SquareTo at hp
 refine fn_of Try.func72 rfl Try.ntmps72 rfl fun E hM => ?_
 refine cr fun K1 hK1 => ?_
 refine sx_ox' (ox_box' rfl (lv_ag _) rfl rfl) (wt_none' rfl) fun q3 => ?_
 refine sx_ox' (ox_box' rfl (lv_ag _) rfl rfl) (wt_none' rfl) fun q4 => ?_
 refine sx_ox' (ox_box' rfl (lv_ag _) rfl rfl) (wt_none' rfl) fun q5 => ?_
 refine sx_ox' (ox_alloc' info76 rfl rfl rfl rfl (l := [(Vb false), Vn, (Vi 0), (Vb false), Vn, (Vi 0)]) rfl) (wt_none' rfl) fun q6 => ?_
 refine nk hK1 ?_
 refine cx_seq' fun K2 hK2 => ?_
 refine cx_plana' [] [(10, 1), (11, 1)] [(0, 1), (1, 1), (3, 1), (4, 1), (5, 1), (6, 1)] 6 #[true, true, false, true, true, true, true, false, false, false, false, false] mixed (by kernel_rfl) ?_
 refine px_rd' rfl (rd_load_agg' (i := 2) (o := 0) (nn := 6) rfl ⟨rfl, rfl, rfl, rfl⟩ rfl agg96 (l' := [(Vb a1_0), (Sl (Ki .u32) a1_1), (Vi a1_2), (Vb a1_3), (Sl (Ki .u32) a1_4), (Vi a1_5)]) rfl) rfl rfl (wt_none' rfl) ?_
 refine px_rd' rfl (rd_load_agg' (i := 1) (o := 0) (nn := 6) rfl ⟨rfl, rfl, rfl, rfl⟩ rfl agg96 (l' := [(Vb a2_0), (Sl (Ki .u32) a2_1), (Vi a2_2), (Vb a2_3), (Sl (Ki .u32) a2_4), (Vi a2_5)]) rfl) rfl rfl (wt_none' rfl) ?_
 refine px_rd' rfl (rd_load_agg' (i := 2) (o := 0) (nn := 6) rfl ⟨rfl, rfl, rfl, rfl⟩ rfl agg96 (l' := [(Vb a1_0), (Sl (Ki .u32) a1_1), (Vi a1_2), (Vb a1_3), (Sl (Ki .u32) a1_4), (Vi a1_5)]) rfl) rfl rfl (wt_none' rfl) ?_
 refine px_rd' rfl (rd_load_agg' (i := 1) (o := 0) (nn := 6) rfl ⟨rfl, rfl, rfl, rfl⟩ rfl agg96 (l' := [(Vb a2_0), (Sl (Ki .u32) a2_1), (Vi a2_2), (Vb a2_3), (Sl (Ki .u32) a2_4), (Vi a2_5)]) rfl) rfl rfl (wt_none' rfl) ?_
 refine px_rd' rfl (rd_load_agg' (i := 2) (o := 0) (nn := 6) rfl ⟨rfl, rfl, rfl, rfl⟩ rfl agg96 (l' := [(Vb a1_0), (Sl (Ki .u32) a1_1), (Vi a1_2), (Vb a1_3), (Sl (Ki .u32) a1_4), (Vi a1_5)]) rfl) rfl rfl (wt_none' rfl) ?_
 refine px_rd' rfl (rd_load_agg' (i := 3) (o := 0) (nn := 6) rfl ⟨rfl, rfl, rfl, rfl⟩ rfl agg96 (l' := [(Vb a0_0), (Sl (Ki .u32) a0_1), (Vi a0_2), (Vb a0_3), (Sl (Ki .u32) a0_4), (Vi a0_5)]) rfl) rfl rfl (wt_none' rfl) ?_
 refine px_nil' ?_
 show AX E _ _ _ _ _ _ _ _
 obtain ⟨r13, hr13, hp⟩ := bind_some hp
 obtain ⟨r18, hr18, hp⟩ := bind_some hp
 refine ax_node (f' := 0) #[true, true, true, true, true, true, true, true, true, true, true, true] (fun (v13 : Addr × Addr) => (⟨53, [], [(3, (Vp q3)), (4, (Vp q4)), (5, (Vp q5)), (6, (Vp q6)), (7, (Vp v13.1)), (8, (Vp v13.2))], [⟨.pointer (some q3), [(Vb a0_0), (Sl (Ki .u32) a0_1), (Vi a0_2), (Vb a0_3), (Sl (Ki .u32) a0_4), (Vi a0_5)], 96, none⟩, ⟨.pointer (some q4), [(Vb a1_0), (Sl (Ki .u32) a1_1), (Vi a1_2), (Vb a1_3), (Sl (Ki .u32) a1_4), (Vi a1_5)], 96, none⟩, ⟨.pointer (some q5), [(Vb a2_0), (Sl (Ki .u32) a2_1), (Vi a2_2), (Vb a2_3), (Sl (Ki .u32) a2_4), (Vi a2_5)], 96, none⟩, ⟨.pointer (some q6), [(Vb false), Vn, (Vi 0), (Vb false), Vn, (Vi 0)], 76, none⟩, ⟨.pointer (some v13.1), [(Vb r13.1), (Sl (Ki .u32) r13.2.1), (Vi r13.2.2)], 74, none⟩, ⟨.pointer (some v13.2), [(Vb r18.1), (Sl (Ki .u32) r18.2.1), (Vi r18.2.2)], 74, none⟩]⟩ : St)) ?_ ?_
 ·rintro ⟨q9015, q9016⟩
  refine ax_nil (by kernel_rfl) ?_
  show TX E K2 _
  refine tx_k' hK2 ?_
  refine cr fun K3 hK3 => ?_
  obtain ⟨r19, hr19, hp⟩ := bind_some hp
  refine sx_ox' (ox_calln' (ent_fn' Try.func108 isn108 rfl rfl) (spec_IntOf_sim _ hr19 : Sx.Fn Try.prog 108 [(Vi 1)] [] (fun x : Unit => (Ag [(Vb r19.1), (Sl (Ki .u32) r19.2.1), (Vi r19.2.2)])) (fun x => [])) (Hn := fun x : Unit => [⟨.pointer (some q3), [(Vb a0_0), (Sl (Ki .u32) a0_1), (Vi a0_2), (Vb a0_3), (Sl (Ki .u32) a0_4), (Vi a0_5)], 96, none⟩, ⟨.pointer (some q4), [(Vb a1_0), (Sl (Ki .u32) a1_1), (Vi a1_2), (Vb a1_3), (Sl (Ki .u32) a1_4), (Vi a1_5)], 96, none⟩, ⟨.pointer (some q5), [(Vb a2_0), (Sl (Ki .u32) a2_1), (Vi a2_2), (Vb a2_3), (Sl (Ki .u32) a2_4), (Vi a2_5)], 96, none⟩, ⟨.pointer (some q6), [(Vb false), Vn, (Vi 0), (Vb false), Vn, (Vi 0)], 76, none⟩, ⟨.pointer (some q9015), [(Vb r13.1), (Sl (Ki .u32) r13.2.1), (Vi r13.2.2)], 74, none⟩, ⟨.pointer (some q9016), [(Vb r18.1), (Sl (Ki .u32) r18.2.1), (Vi r18.2.2)], 74, none⟩]) (fun _ => rfl) rfl rfl) (wt_none' rfl) fun ⟨⟩ => ?_
  refine sx_ox' (ox_alloc' info74 rfl rfl rfl rfl (l := [(Vb false), Vn, (Vi 0)]) rfl) (wt_none' rfl) fun q9 => ?_
  refine sx_ox' (ox_store' (i := 0) (o := 0) rfl rfl (lv_ag _) ⟨rfl, rfl, rfl, rfl⟩ rfl info74 rfl (H' := [⟨.pointer (some q9), [(Vb r19.1), (Sl (Ki .u32) r19.2.1), (Vi r19.2.2)], 74, none⟩, ⟨.pointer (some q3), [(Vb a0_0), (Sl (Ki .u32) a0_1), (Vi a0_2), (Vb a0_3), (Sl (Ki .u32) a0_4), (Vi a0_5)], 96, none⟩, ⟨.pointer (some q4), [(Vb a1_0), (Sl (Ki .u32) a1_1), (Vi a1_2), (Vb a1_3), (Sl (Ki .u32) a1_4), (Vi a1_5)], 96, none⟩, ⟨.pointer (some q5), [(Vb a2_0), (Sl (Ki .u32) a2_1), (Vi a2_2), (Vb a2_3), (Sl (Ki .u32) a2_4), (Vi a2_5)], 96, none⟩, ⟨.pointer (some q6), [(Vb false), Vn, (Vi 0), (Vb false), Vn, (Vi 0)], 76, none⟩, ⟨.pointer (some q9015), [(Vb r13.1), (Sl (Ki .u32) r13.2.1), (Vi r13.2.2)], 74, none⟩, ⟨.pointer (some q9016), [(Vb r18.1), (Sl (Ki .u32) r18.2.1), (Vi r18.2.2)], 74, none⟩]) rfl) (wt_none' rfl) fun _ => ?_
  refine nk hK3 ?_
  refine cx_seq' fun K4 hK4 => ?_
  refine cx_block' ?_
  refine cr fun K5 hK5 => ?_
  refine s0 (rd_load_agg' (i := 5) (o := 0) (nn := 3) rfl ⟨rfl, rfl, rfl, rfl⟩ rfl agg74 (l' := [(Vb r13.1), (Sl (Ki .u32) r13.2.1), (Vi r13.2.2)]) rfl) ?_
  obtain ⟨r22, hr22, hp⟩ := bind_some hp
  refine sx_ox' (ox_calln' (ent_fn' Try.func82 isn82 rfl rfl) (spec_Dyadic_Sign_sim _ _ _ hr22 : Sx.Fn Try.prog 82 [(Ag [(Vb r13.1), (Sl (Ki .u32) r13.2.1), (Vi r13.2.2)])] [] (fun x : Unit => (Vi r22)) (fun x => [])) (Hn := fun x : Unit => [⟨.pointer (some q9), [(Vb r19.1), (Sl (Ki .u32) r19.2.1), (Vi r19.2.2)], 74, none⟩, ⟨.pointer (some q3), [(Vb a0_0), (Sl (Ki .u32) a0_1), (Vi a0_2), (Vb a0_3), (Sl (Ki .u32) a0_4), (Vi a0_5)], 96, none⟩, ⟨.pointer (some q4), [(Vb a1_0), (Sl (Ki .u32) a1_1), (Vi a1_2), (Vb a1_3), (Sl (Ki .u32) a1_4), (Vi a1_5)], 96, none⟩, ⟨.pointer (some q5), [(Vb a2_0), (Sl (Ki .u32) a2_1), (Vi a2_2), (Vb a2_3), (Sl (Ki .u32) a2_4), (Vi a2_5)], 96, none⟩, ⟨.pointer (some q6), [(Vb false), Vn, (Vi 0), (Vb false), Vn, (Vi 0)], 76, none⟩, ⟨.pointer (some q9015), [(Vb r13.1), (Sl (Ki .u32) r13.2.1), (Vi r13.2.2)], 74, none⟩, ⟨.pointer (some q9016), [(Vb r18.1), (Sl (Ki .u32) r18.2.1), (Vi r18.2.2)], 74, none⟩]) (fun _ => rfl) rfl rfl) (wt_none' rfl) fun ⟨⟩ => ?_
  refine s0 (rd_bin' rfl rfl eg_int ru_eql) ?_
  refine s0 (rd_move' rfl) ?_
  refine sx_cutn' 4 (fun (v14 : Bool) => (⟨53, [], [(3, (Vp q3)), (4, (Vp q4)), (5, (Vp q5)), (6, (Vp q6)), (7, (Vp q9015)), (8, (Vp q9016)), (9, (Vp q9)), (28, (Vb v14))], [⟨.pointer (some q3), [(Vb a0_0), (Sl (Ki .u32) a0_1), (Vi a0_2), (Vb a0_3), (Sl (Ki .u32) a0_4), (Vi a0_5)], 96, none⟩, ⟨.pointer (some q4), [(Vb a1_0), (Sl (Ki .u32) a1_1), (Vi a1_2), (Vb a1_3), (Sl (Ki .u32) a1_4), (Vi a1_5)], 96, none⟩, ⟨.pointer (some q5), [(Vb a2_0), (Sl (Ki .u32) a2_1), (Vi a2_2), (Vb a2_3), (Sl (Ki .u32) a2_4), (Vi a2_5)], 96, none⟩, ⟨.pointer (some q6), [(Vb false), Vn, (Vi 0), (Vb false), Vn, (Vi 0)], 76, none⟩, ⟨.pointer (some q9015), [(Vb r13.1), (Sl (Ki .u32) r13.2.1), (Vi r13.2.2)], 74, none⟩, ⟨.pointer (some q9016), [(Vb r18.1), (Sl (Ki .u32) r18.2.1), (Vi r18.2.2)], 74, none⟩, ⟨.pointer (some q9), [(Vb r19.1), (Sl (Ki .u32) r19.2.1), (Vi r19.2.2)], 74, none⟩]⟩ : St)) (fun (v14 : Bool) => spec_SquareTo_j1 k a1_0 a1_1 a1_2 a1_3 a1_4 a1_5 a0_0 a0_1 a0_2 a0_3 a0_4 a0_5 r19 r18 r13 a2_0 a2_1 a2_2 a2_3 a2_4 a2_5 v14 = some out) ?_ ?_
  ·rintro x1 hp
   replace hp : spec_SquareTo_j1 k a1_0 a1_1 a1_2 a1_3 a1_4 a1_5 a0_0 a0_1 a0_2 a0_3 a0_4 a0_5 r19 r18 r13 a2_0 a2_1 a2_2 a2_3 a2_4 a2_5 x1 = some out := hp
   unfold spec_SquareTo_j1 at hp
   refine s0 (rd_assign' rfl) ?_
   refine nk hK5 ?_
   refine cx_cond' rfl (fun h2 => ?_) (fun h2 => ?_)
   ·replace hp := (br_t h2).symm.trans hp
    refine cx_seq' fun K7 hK7 => ?_
    refine cx_plan' [] [(5, 1)] [(0, 1), (1, 1), (3, 1), (2, 0), (4, 1), (5, 0)] mixed (by kernel_rfl) ?_
    refine px_rd' rfl (rd_load_agg' (i := 1) (o := 0) (nn := 6) rfl ⟨rfl, rfl, rfl, rfl⟩ rfl agg96 (l' := [(Vb a1_0), (Sl (Ki .u32) a1_1), (Vi a1_2), (Vb a1_3), (Sl (Ki .u32) a1_4), (Vi a1_5)]) rfl) rfl rfl (wt_none' rfl) ?_
    refine px_rd' rfl (rd_load_agg' (i := 0) (o := 0) (nn := 6) rfl ⟨rfl, rfl, rfl, rfl⟩ rfl agg96 (l' := [(Vb a0_0), (Sl (Ki .u32) a0_1), (Vi a0_2), (Vb a0_3), (Sl (Ki .u32) a0_4), (Vi a0_5)]) rfl) rfl rfl (wt_none' rfl) ?_
    refine px_rd' rfl (rd_load_agg' (i := 6) (o := 0) (nn := 3) rfl ⟨rfl, rfl, rfl, rfl⟩ rfl agg74 (l' := [(Vb r19.1), (Sl (Ki .u32) r19.2.1), (Vi r19.2.2)]) rfl) rfl rfl (wt_none' rfl) ?_
    obtain ⟨r31, hr31, hp⟩ := bind_some hp
    refine px_ox' rfl (ox_calln' (ent_fn' Try.func107 isn107 rfl rfl) (spec_Square_sim _ _ _ _ _ _ _ _ _ _ _ _ hr31 : Sx.Fn Try.prog 107 [(Ag [(Vb a1_0), (Sl (Ki .u32) a1_1), (Vi a1_2), (Vb a1_3), (Sl (Ki .u32) a1_4), (Vi a1_5)]), (Ag [(Vb a0_0), (Sl (Ki .u32) a0_1), (Vi a0_2), (Vb a0_3), (Sl (Ki .u32) a0_4), (Vi a0_5)])] [] (fun x : Unit => (Ag [(Vb r31.1), (Sl (Ki .u32) r31.2.1), (Vi r31.2.2)])) (fun x => [])) (Hn := fun x : Unit => [⟨.pointer (some q3), [(Vb a0_0), (Sl (Ki .u32) a0_1), (Vi a0_2), (Vb a0_3), (Sl (Ki .u32) a0_4), (Vi a0_5)], 96, none⟩, ⟨.pointer (some q4), [(Vb a1_0), (Sl (Ki .u32) a1_1), (Vi a1_2), (Vb a1_3), (Sl (Ki .u32) a1_4), (Vi a1_5)], 96, none⟩, ⟨.pointer (some q5), [(Vb a2_0), (Sl (Ki .u32) a2_1), (Vi a2_2), (Vb a2_3), (Sl (Ki .u32) a2_4), (Vi a2_5)], 96, none⟩, ⟨.pointer (some q6), [(Vb false), Vn, (Vi 0), (Vb false), Vn, (Vi 0)], 76, none⟩, ⟨.pointer (some q9015), [(Vb r13.1), (Sl (Ki .u32) r13.2.1), (Vi r13.2.2)], 74, none⟩, ⟨.pointer (some q9016), [(Vb r18.1), (Sl (Ki .u32) r18.2.1), (Vi r18.2.2)], 74, none⟩, ⟨.pointer (some q9), [(Vb r19.1), (Sl (Ki .u32) r19.2.1), (Vi r19.2.2)], 74, none⟩]) (fun _ => rfl) rfl rfl) rfl bs_nil (wt_none' rfl) fun ⟨⟩ => ?_
    refine px_rd' rfl (rd_build' (pls := [(0, 3), (3, 3)]) (qs := [(0, [(Vb r31.1), (Sl (Ki .u32) r31.2.1), (Vi r31.2.2)]), (1, [(Vb r19.1), (Sl (Ki .u32) r19.2.1), (Vi r19.2.2)])]) (r := [(Vb r31.1), (Sl (Ki .u32) r31.2.1), (Vi r31.2.2), (Vb r19.1), (Sl (Ki .u32) r19.2.1), (Vi r19.2.2)]) ⟨rfl, ⟨_, rfl, (lv_ag _)⟩, ⟨rfl, ⟨_, rfl, (lv_ag _)⟩, trivial⟩⟩ Try.underlying76 has76 places76 info76 rfl rfl rfl) rfl rfl (wt_none' rfl) ?_
    refine px_oxv' rfl (oxv_store (i := 3) (o := 0) rfl rfl (lv_ag _) ⟨rfl, rfl, rfl, rfl⟩ rfl info76 rfl (H' := [⟨.pointer (some q3), [(Vb a0_0), (Sl (Ki .u32) a0_1), (Vi a0_2), (Vb a0_3), (Sl (Ki .u32) a0_4), (Vi a0_5)], 96, none⟩, ⟨.pointer (some q4), [(Vb a1_0), (Sl (Ki .u32) a1_1), (Vi a1_2), (Vb a1_3), (Sl (Ki .u32) a1_4), (Vi a1_5)], 96, none⟩, ⟨.pointer (some q5), [(Vb a2_0), (Sl (Ki .u32) a2_1), (Vi a2_2), (Vb a2_3), (Sl (Ki .u32) a2_4), (Vi a2_5)], 96, none⟩, ⟨.pointer (some q6), [(Vb r31.1), (Sl (Ki .u32) r31.2.1), (Vi r31.2.2), (Vb r19.1), (Sl (Ki .u32) r19.2.1), (Vi r19.2.2)], 76, none⟩, ⟨.pointer (some q9015), [(Vb r13.1), (Sl (Ki .u32) r13.2.1), (Vi r13.2.2)], 74, none⟩, ⟨.pointer (some q9016), [(Vb r18.1), (Sl (Ki .u32) r18.2.1), (Vi r18.2.2)], 74, none⟩, ⟨.pointer (some q9), [(Vb r19.1), (Sl (Ki .u32) r19.2.1), (Vi r19.2.2)], 74, none⟩]) rfl) rfl rfl bo_nil (wt_none' rfl) fun _ => ?_
    refine px_nil' ?_
    show TX E K7 _
    refine tx_k' hK7 ?_
    refine cx_retc' ?_
    replace hp := Option.some.inj hp
    subst hp
    refine tx_pick' (L' := [(6, (Vp q6))]) (H' := [⟨.pointer (some q6), [(Vb r31.1), (Sl (Ki .u32) r31.2.1), (Vi r31.2.2), (Vb r19.1), (Sl (Ki .u32) r19.2.1), (Vi r19.2.2)], 76, none⟩]) [3] (sub_cons rfl sub_nil) (by decide) (pick_cons rfl pick_nil) ?_
    exact tx_ret1' Try.results72 rfl () (rv_cell_agg' (i := 0) (o := 0) (nn := 6) rfl ⟨rfl, rfl, rfl, rfl⟩ rfl agg76 rfl) (List.nil_sublist _)
   replace hp := (br_f h2).symm.trans hp
   refine cr fun K8 hK8 => ?_
   refine s0 (rd_load_agg' (i := 5) (o := 0) (nn := 3) rfl ⟨rfl, rfl, rfl, rfl⟩ rfl agg74 (l' := [(Vb r18.1), (Sl (Ki .u32) r18.2.1), (Vi r18.2.2)]) rfl) ?_
   refine s0 (rd_load_agg' (i := 4) (o := 0) (nn := 3) rfl ⟨rfl, rfl, rfl, rfl⟩ rfl agg74 (l' := [(Vb r13.1), (Sl (Ki .u32) r13.2.1), (Vi r13.2.2)]) rfl) ?_
   obtain ⟨r37, hr37, hp⟩ := bind_some hp
   refine sx_ox' (ox_calln' (ent_fn' Try.func109 isn109 rfl rfl) (spec_Dyadic_Cmp_sim _ _ _ _ _ _ hr37 : Sx.Fn Try.prog 109 [(Ag [(Vb r18.1), (Sl (Ki .u32) r18.2.1), (Vi r18.2.2)]), (Ag [(Vb r13.1), (Sl (Ki .u32) r13.2.1), (Vi r13.2.2)])] [] (fun x : Unit => (Vi r37)) (fun x => [])) (Hn := fun x : Unit => [⟨.pointer (some q3), [(Vb a0_0), (Sl (Ki .u32) a0_1), (Vi a0_2), (Vb a0_3), (Sl (Ki .u32) a0_4), (Vi a0_5)], 96, none⟩, ⟨.pointer (some q4), [(Vb a1_0), (Sl (Ki .u32) a1_1), (Vi a1_2), (Vb a1_3), (Sl (Ki .u32) a1_4), (Vi a1_5)], 96, none⟩, ⟨.pointer (some q5), [(Vb a2_0), (Sl (Ki .u32) a2_1), (Vi a2_2), (Vb a2_3), (Sl (Ki .u32) a2_4), (Vi a2_5)], 96, none⟩, ⟨.pointer (some q6), [(Vb false), Vn, (Vi 0), (Vb false), Vn, (Vi 0)], 76, none⟩, ⟨.pointer (some q9015), [(Vb r13.1), (Sl (Ki .u32) r13.2.1), (Vi r13.2.2)], 74, none⟩, ⟨.pointer (some q9016), [(Vb r18.1), (Sl (Ki .u32) r18.2.1), (Vi r18.2.2)], 74, none⟩, ⟨.pointer (some q9), [(Vb r19.1), (Sl (Ki .u32) r19.2.1), (Vi r19.2.2)], 74, none⟩]) (fun _ => rfl) rfl rfl) (wt_none' rfl) fun ⟨⟩ => ?_
   refine s0 (rd_bin' rfl rfl eg_int ru_geq) ?_
   refine s0 (rd_assign' rfl) ?_
   refine nk hK8 ?_
   refine cx_cond' rfl (fun h3 => ?_) (fun h3 => ?_)
   ·replace hp := (br_t h3).symm.trans hp
    refine cx_seq' fun K9 hK9 => ?_
    refine cx_plan' [] [(5, 1)] [(0, 1), (1, 1), (3, 1), (2, 0), (4, 1), (5, 0)] mixed (by kernel_rfl) ?_
    refine px_rd' rfl (rd_load_agg' (i := 2) (o := 0) (nn := 6) rfl ⟨rfl, rfl, rfl, rfl⟩ rfl agg96 (l' := [(Vb a2_0), (Sl (Ki .u32) a2_1), (Vi a2_2), (Vb a2_3), (Sl (Ki .u32) a2_4), (Vi a2_5)]) rfl) rfl rfl (wt_none' rfl) ?_
    refine px_rd' rfl (rd_load_agg' (i := 0) (o := 0) (nn := 6) rfl ⟨rfl, rfl, rfl, rfl⟩ rfl agg96 (l' := [(Vb a0_0), (Sl (Ki .u32) a0_1), (Vi a0_2), (Vb a0_3), (Sl (Ki .u32) a0_4), (Vi a0_5)]) rfl) rfl rfl (wt_none' rfl) ?_
    refine px_rd' rfl (rd_load_agg' (i := 6) (o := 0) (nn := 3) rfl ⟨rfl, rfl, rfl, rfl⟩ rfl agg74 (l' := [(Vb r19.1), (Sl (Ki .u32) r19.2.1), (Vi r19.2.2)]) rfl) rfl rfl (wt_none' rfl) ?_
    obtain ⟨r41, hr41, hp⟩ := bind_some hp
    refine px_ox' rfl (ox_calln' (ent_fn' Try.func107 isn107 rfl rfl) (spec_Square_sim _ _ _ _ _ _ _ _ _ _ _ _ hr41 : Sx.Fn Try.prog 107 [(Ag [(Vb a2_0), (Sl (Ki .u32) a2_1), (Vi a2_2), (Vb a2_3), (Sl (Ki .u32) a2_4), (Vi a2_5)]), (Ag [(Vb a0_0), (Sl (Ki .u32) a0_1), (Vi a0_2), (Vb a0_3), (Sl (Ki .u32) a0_4), (Vi a0_5)])] [] (fun x : Unit => (Ag [(Vb r41.1), (Sl (Ki .u32) r41.2.1), (Vi r41.2.2)])) (fun x => [])) (Hn := fun x : Unit => [⟨.pointer (some q3), [(Vb a0_0), (Sl (Ki .u32) a0_1), (Vi a0_2), (Vb a0_3), (Sl (Ki .u32) a0_4), (Vi a0_5)], 96, none⟩, ⟨.pointer (some q4), [(Vb a1_0), (Sl (Ki .u32) a1_1), (Vi a1_2), (Vb a1_3), (Sl (Ki .u32) a1_4), (Vi a1_5)], 96, none⟩, ⟨.pointer (some q5), [(Vb a2_0), (Sl (Ki .u32) a2_1), (Vi a2_2), (Vb a2_3), (Sl (Ki .u32) a2_4), (Vi a2_5)], 96, none⟩, ⟨.pointer (some q6), [(Vb false), Vn, (Vi 0), (Vb false), Vn, (Vi 0)], 76, none⟩, ⟨.pointer (some q9015), [(Vb r13.1), (Sl (Ki .u32) r13.2.1), (Vi r13.2.2)], 74, none⟩, ⟨.pointer (some q9016), [(Vb r18.1), (Sl (Ki .u32) r18.2.1), (Vi r18.2.2)], 74, none⟩, ⟨.pointer (some q9), [(Vb r19.1), (Sl (Ki .u32) r19.2.1), (Vi r19.2.2)], 74, none⟩]) (fun _ => rfl) rfl rfl) rfl bs_nil (wt_none' rfl) fun ⟨⟩ => ?_
    refine px_rd' rfl (rd_build' (pls := [(0, 3), (3, 3)]) (qs := [(0, [(Vb r41.1), (Sl (Ki .u32) r41.2.1), (Vi r41.2.2)]), (1, [(Vb r19.1), (Sl (Ki .u32) r19.2.1), (Vi r19.2.2)])]) (r := [(Vb r41.1), (Sl (Ki .u32) r41.2.1), (Vi r41.2.2), (Vb r19.1), (Sl (Ki .u32) r19.2.1), (Vi r19.2.2)]) ⟨rfl, ⟨_, rfl, (lv_ag _)⟩, ⟨rfl, ⟨_, rfl, (lv_ag _)⟩, trivial⟩⟩ Try.underlying76 has76 places76 info76 rfl rfl rfl) rfl rfl (wt_none' rfl) ?_
    refine px_oxv' rfl (oxv_store (i := 3) (o := 0) rfl rfl (lv_ag _) ⟨rfl, rfl, rfl, rfl⟩ rfl info76 rfl (H' := [⟨.pointer (some q3), [(Vb a0_0), (Sl (Ki .u32) a0_1), (Vi a0_2), (Vb a0_3), (Sl (Ki .u32) a0_4), (Vi a0_5)], 96, none⟩, ⟨.pointer (some q4), [(Vb a1_0), (Sl (Ki .u32) a1_1), (Vi a1_2), (Vb a1_3), (Sl (Ki .u32) a1_4), (Vi a1_5)], 96, none⟩, ⟨.pointer (some q5), [(Vb a2_0), (Sl (Ki .u32) a2_1), (Vi a2_2), (Vb a2_3), (Sl (Ki .u32) a2_4), (Vi a2_5)], 96, none⟩, ⟨.pointer (some q6), [(Vb r41.1), (Sl (Ki .u32) r41.2.1), (Vi r41.2.2), (Vb r19.1), (Sl (Ki .u32) r19.2.1), (Vi r19.2.2)], 76, none⟩, ⟨.pointer (some q9015), [(Vb r13.1), (Sl (Ki .u32) r13.2.1), (Vi r13.2.2)], 74, none⟩, ⟨.pointer (some q9016), [(Vb r18.1), (Sl (Ki .u32) r18.2.1), (Vi r18.2.2)], 74, none⟩, ⟨.pointer (some q9), [(Vb r19.1), (Sl (Ki .u32) r19.2.1), (Vi r19.2.2)], 74, none⟩]) rfl) rfl rfl bo_nil (wt_none' rfl) fun _ => ?_
    refine px_nil' ?_
    show TX E K9 _
    refine tx_k' hK9 ?_
    refine cx_retc' ?_
    replace hp := Option.some.inj hp
    subst hp
    refine tx_pick' (L' := [(6, (Vp q6))]) (H' := [⟨.pointer (some q6), [(Vb r41.1), (Sl (Ki .u32) r41.2.1), (Vi r41.2.2), (Vb r19.1), (Sl (Ki .u32) r19.2.1), (Vi r19.2.2)], 76, none⟩]) [3] (sub_cons rfl sub_nil) (by decide) (pick_cons rfl pick_nil) ?_
    exact tx_ret1' Try.results72 rfl () (rv_cell_agg' (i := 0) (o := 0) (nn := 6) rfl ⟨rfl, rfl, rfl, rfl⟩ rfl agg76 rfl) (List.nil_sublist _)
   replace hp := (br_f h3).symm.trans hp
   refine cx_skip' ?_
   show TX E K4 _
   refine tx_k' hK4 ?_
   refine cr fun K10 hK10 => ?_
   refine s0 (rd_load_agg' (i := 1) (o := 0) (nn := 6) rfl ⟨rfl, rfl, rfl, rfl⟩ rfl agg96 (l' := [(Vb a1_0), (Sl (Ki .u32) a1_1), (Vi a1_2), (Vb a1_3), (Sl (Ki .u32) a1_4), (Vi a1_5)]) rfl) ?_
   refine s0 (rd_load_agg' (i := 2) (o := 0) (nn := 6) rfl ⟨rfl, rfl, rfl, rfl⟩ rfl agg96 (l' := [(Vb a2_0), (Sl (Ki .u32) a2_1), (Vi a2_2), (Vb a2_3), (Sl (Ki .u32) a2_4), (Vi a2_5)]) rfl) ?_
   refine s0 (rd_load_agg' (i := 0) (o := 0) (nn := 6) rfl ⟨rfl, rfl, rfl, rfl⟩ rfl agg96 (l' := [(Vb a0_0), (Sl (Ki .u32) a0_1), (Vi a0_2), (Vb a0_3), (Sl (Ki .u32) a0_4), (Vi a0_5)]) rfl) ?_
   obtain ⟨r47, hr47, hp⟩ := bind_some hp
   refine sx_ox' (ox_calln' (ent_fn' Try.func90 isn90 rfl rfl) (spec_Cross_sim _ _ _ _ _ _ _ _ _ _ _ _ _ _ _ _ _ _ hr47 : Sx.Fn Try.prog 90 [(Ag [(Vb a1_0), (Sl (Ki .u32) a1_1), (Vi a1_2), (Vb a1_3), (Sl (Ki .u32) a1_4), (Vi a1_5)]), (Ag [(Vb a2_0), (Sl (Ki .u32) a2_1), (Vi a2_2), (Vb a2_3), (Sl (Ki .u32) a2_4), (Vi a2_5)]), (Ag [(Vb a0_0), (Sl (Ki .u32) a0_1), (Vi a0_2), (Vb a0_3), (Sl (Ki .u32) a0_4), (Vi a0_5)])] [] (fun x : Unit => (Ag [(Vb r47.1), (Sl (Ki .u32) r47.2.1), (Vi r47.2.2)])) (fun x => [])) (Hn := fun x : Unit => [⟨.pointer (some q3), [(Vb a0_0), (Sl (Ki .u32) a0_1), (Vi a0_2), (Vb a0_3), (Sl (Ki .u32) a0_4), (Vi a0_5)], 96, none⟩, ⟨.pointer (some q4), [(Vb a1_0), (Sl (Ki .u32) a1_1), (Vi a1_2), (Vb a1_3), (Sl (Ki .u32) a1_4), (Vi a1_5)], 96, none⟩, ⟨.pointer (some q5), [(Vb a2_0), (Sl (Ki .u32) a2_1), (Vi a2_2), (Vb a2_3), (Sl (Ki .u32) a2_4), (Vi a2_5)], 96, none⟩, ⟨.pointer (some q6), [(Vb false), Vn, (Vi 0), (Vb false), Vn, (Vi 0)], 76, none⟩, ⟨.pointer (some q9015), [(Vb r13.1), (Sl (Ki .u32) r13.2.1), (Vi r13.2.2)], 74, none⟩, ⟨.pointer (some q9016), [(Vb r18.1), (Sl (Ki .u32) r18.2.1), (Vi r18.2.2)], 74, none⟩, ⟨.pointer (some q9), [(Vb r19.1), (Sl (Ki .u32) r19.2.1), (Vi r19.2.2)], 74, none⟩]) (fun _ => rfl) rfl rfl) (wt_none' rfl) fun ⟨⟩ => ?_
   refine sx_ox' (ox_alloc' info74 rfl rfl rfl rfl (l := [(Vb false), Vn, (Vi 0)]) rfl) (wt_none' rfl) fun q10 => ?_
   refine sx_ox' (ox_store' (i := 0) (o := 0) rfl rfl (lv_ag _) ⟨rfl, rfl, rfl, rfl⟩ rfl info74 rfl (H' := [⟨.pointer (some q10), [(Vb r47.1), (Sl (Ki .u32) r47.2.1), (Vi r47.2.2)], 74, none⟩, ⟨.pointer (some q3), [(Vb a0_0), (Sl (Ki .u32) a0_1), (Vi a0_2), (Vb a0_3), (Sl (Ki .u32) a0_4), (Vi a0_5)], 96, none⟩, ⟨.pointer (some q4), [(Vb a1_0), (Sl (Ki .u32) a1_1), (Vi a1_2), (Vb a1_3), (Sl (Ki .u32) a1_4), (Vi a1_5)], 96, none⟩, ⟨.pointer (some q5), [(Vb a2_0), (Sl (Ki .u32) a2_1), (Vi a2_2), (Vb a2_3), (Sl (Ki .u32) a2_4), (Vi a2_5)], 96, none⟩, ⟨.pointer (some q6), [(Vb false), Vn, (Vi 0), (Vb false), Vn, (Vi 0)], 76, none⟩, ⟨.pointer (some q9015), [(Vb r13.1), (Sl (Ki .u32) r13.2.1), (Vi r13.2.2)], 74, none⟩, ⟨.pointer (some q9016), [(Vb r18.1), (Sl (Ki .u32) r18.2.1), (Vi r18.2.2)], 74, none⟩, ⟨.pointer (some q9), [(Vb r19.1), (Sl (Ki .u32) r19.2.1), (Vi r19.2.2)], 74, none⟩]) rfl) (wt_none' rfl) fun _ => ?_
   refine nk hK10 ?_
   refine cx_seq' fun K11 hK11 => ?_
   refine cx_plan' [] [(5, 1)] [(0, 1), (1, 1), (3, 1), (2, 0), (4, 1), (5, 0)] mixed (by kernel_rfl) ?_
   refine px_rd' rfl (rd_load_agg' (i := 0) (o := 0) (nn := 3) rfl ⟨rfl, rfl, rfl, rfl⟩ rfl agg74 (l' := [(Vb r47.1), (Sl (Ki .u32) r47.2.1), (Vi r47.2.2)]) rfl) rfl rfl (wt_none' rfl) ?_
   refine px_rd' rfl (rd_load_agg' (i := 0) (o := 0) (nn := 3) rfl ⟨rfl, rfl, rfl, rfl⟩ rfl agg74 (l' := [(Vb r47.1), (Sl (Ki .u32) r47.2.1), (Vi r47.2.2)]) rfl) rfl rfl (wt_none' rfl) ?_
   refine px_rd' rfl (rd_load_agg' (i := 5) (o := 0) (nn := 3) rfl ⟨rfl, rfl, rfl, rfl⟩ rfl agg74 (l' := [(Vb r13.1), (Sl (Ki .u32) r13.2.1), (Vi r13.2.2)]) rfl) rfl rfl (wt_none' rfl) ?_
   obtain ⟨r50, hr50, hp⟩ := bind_some hp
   refine px_ox' rfl (ox_calln' (ent_fn' Try.func80 isn80 rfl rfl) (spec_Dyadic_Mul_sim _ _ _ _ _ _ hr50 : Sx.Fn Try.prog 80 [(Ag [(Vb r47.1), (Sl (Ki .u32) r47.2.1), (Vi r47.2.2)]), (Ag [(Vb r47.1), (Sl (Ki .u32) r47.2.1), (Vi r47.2.2)])] [] (fun x : Unit => (Ag [(Vb r50.1), (Sl (Ki .u32) r50.2.1), (Vi r50.2.2)])) (fun x => [])) (Hn := fun x : Unit => [⟨.pointer (some q10), [(Vb r47.1), (Sl (Ki .u32) r47.2.1), (Vi r47.2.2)], 74, none⟩, ⟨.pointer (some q3), [(Vb a0_0), (Sl (Ki .u32) a0_1), (Vi a0_2), (Vb a0_3), (Sl (Ki .u32) a0_4), (Vi a0_5)], 96, none⟩, ⟨.pointer (some q4), [(Vb a1_0), (Sl (Ki .u32) a1_1), (Vi a1_2), (Vb a1_3), (Sl (Ki .u32) a1_4), (Vi a1_5)], 96, none⟩, ⟨.pointer (some q5), [(Vb a2_0), (Sl (Ki .u32) a2_1), (Vi a2_2), (Vb a2_3), (Sl (Ki .u32) a2_4), (Vi a2_5)], 96, none⟩, ⟨.pointer (some q6), [(Vb false), Vn, (Vi 0), (Vb false), Vn, (Vi 0)], 76, none⟩, ⟨.pointer (some q9015), [(Vb r13.1), (Sl (Ki .u32) r13.2.1), (Vi r13.2.2)], 74, none⟩, ⟨.pointer (some q9016), [(Vb r18.1), (Sl (Ki .u32) r18.2.1), (Vi r18.2.2)], 74, none⟩, ⟨.pointer (some q9), [(Vb r19.1), (Sl (Ki .u32) r19.2.1), (Vi r19.2.2)], 74, none⟩]) (fun _ => rfl) rfl rfl) rfl bs_nil (wt_none' rfl) fun ⟨⟩ => ?_
   refine px_rd' rfl (rd_build' (pls := [(0, 3), (3, 3)]) (qs := [(0, [(Vb r50.1), (Sl (Ki .u32) r50.2.1), (Vi r50.2.2)]), (1, [(Vb r13.1), (Sl (Ki .u32) r13.2.1), (Vi r13.2.2)])]) (r := [(Vb r50.1), (Sl (Ki .u32) r50.2.1), (Vi r50.2.2), (Vb r13.1), (Sl (Ki .u32) r13.2.1), (Vi r13.2.2)]) ⟨rfl, ⟨_, rfl, (lv_ag _)⟩, ⟨rfl, ⟨_, rfl, (lv_ag _)⟩, trivial⟩⟩ Try.underlying76 has76 places76 info76 rfl rfl rfl) rfl rfl (wt_none' rfl) ?_
   refine px_oxv' rfl (oxv_store (i := 4) (o := 0) rfl rfl (lv_ag _) ⟨rfl, rfl, rfl, rfl⟩ rfl info76 rfl (H' := [⟨.pointer (some q10), [(Vb r47.1), (Sl (Ki .u32) r47.2.1), (Vi r47.2.2)], 74, none⟩, ⟨.pointer (some q3), [(Vb a0_0), (Sl (Ki .u32) a0_1), (Vi a0_2), (Vb a0_3), (Sl (Ki .u32) a0_4), (Vi a0_5)], 96, none⟩, ⟨.pointer (some q4), [(Vb a1_0), (Sl (Ki .u32) a1_1), (Vi a1_2), (Vb a1_3), (Sl (Ki .u32) a1_4), (Vi a1_5)], 96, none⟩, ⟨.pointer (some q5), [(Vb a2_0), (Sl (Ki .u32) a2_1), (Vi a2_2), (Vb a2_3), (Sl (Ki .u32) a2_4), (Vi a2_5)], 96, none⟩, ⟨.pointer (some q6), [(Vb r50.1), (Sl (Ki .u32) r50.2.1), (Vi r50.2.2), (Vb r13.1), (Sl (Ki .u32) r13.2.1), (Vi r13.2.2)], 76, none⟩, ⟨.pointer (some q9015), [(Vb r13.1), (Sl (Ki .u32) r13.2.1), (Vi r13.2.2)], 74, none⟩, ⟨.pointer (some q9016), [(Vb r18.1), (Sl (Ki .u32) r18.2.1), (Vi r18.2.2)], 74, none⟩, ⟨.pointer (some q9), [(Vb r19.1), (Sl (Ki .u32) r19.2.1), (Vi r19.2.2)], 74, none⟩]) rfl) rfl rfl bo_nil (wt_none' rfl) fun _ => ?_
   refine px_nil' ?_
   show TX E K11 _
   refine tx_k' hK11 ?_
   refine cx_retc' ?_
   replace hp := Option.some.inj hp
   subst hp
   refine tx_pick' (L' := [(6, (Vp q6))]) (H' := [⟨.pointer (some q6), [(Vb r50.1), (Sl (Ki .u32) r50.2.1), (Vi r50.2.2), (Vb r13.1), (Sl (Ki .u32) r13.2.1), (Vi r13.2.2)], 76, none⟩]) [4] (sub_cons rfl sub_nil) (by decide) (pick_cons rfl pick_nil) ?_
   exact tx_ret1' Try.results72 rfl () (rv_cell_agg' (i := 0) (o := 0) (nn := 6) rfl ⟨rfl, rfl, rfl, rfl⟩ rfl agg76 rfl) (List.nil_sublist _)
  intro K6 hK6
  rcases br_cases hp with ⟨h1, hp⟩ | ⟨h1, hp⟩
  ·refine sx_skip' rfl rfl (wt_is' (wt_guard' rfl rfl rfl) (beq_tf h1)) ?_
   refine sx_skip' rfl rfl (wt_is' (wt_guard' rfl rfl rfl) (beq_tf h1)) ?_
   refine sx_skip' rfl rfl (wt_is' (wt_guard' rfl rfl rfl) (beq_tf h1)) ?_
   refine s0 (rd_pick_true' rfl h1 rfl) ?_
   refine sx_nil' ?_
   show TX E K6 _
   exact tx_pick' [1, 2, 3, 4, 5, 6, 0] (sub_cons rfl (sub_cons rfl (sub_cons rfl (sub_cons rfl (sub_cons rfl (sub_cons rfl (sub_cons rfl (sub_cons rfl sub_nil)))))))) (by decide) (pick_cons rfl (pick_cons rfl (pick_cons rfl (pick_cons rfl (pick_cons rfl (pick_cons rfl (pick_cons rfl pick_nil))))))) (hK6 true hp)
  refine sx_rd' (rd_load_agg' (i := 6) (o := 0) (nn := 3) rfl ⟨rfl, rfl, rfl, rfl⟩ rfl agg74 (l' := [(Vb r18.1), (Sl (Ki .u32) r18.2.1), (Vi r18.2.2)]) rfl) rfl rfl (wt_is' (wt_guard' rfl rfl rfl) (beq_ff h1)) ?_
  obtain ⟨r26, hr26, hp⟩ := bind_some hp
  refine sx_ox' (ox_calln' (ent_fn' Try.func82 isn82 rfl rfl) (spec_Dyadic_Sign_sim _ _ _ hr26 : Sx.Fn Try.prog 82 [(Ag [(Vb r18.1), (Sl (Ki .u32) r18.2.1), (Vi r18.2.2)])] [] (fun x : Unit => (Vi r26)) (fun x => [])) (Hn := fun x : Unit => [⟨.pointer (some q9), [(Vb r19.1), (Sl (Ki .u32) r19.2.1), (Vi r19.2.2)], 74, none⟩, ⟨.pointer (some q3), [(Vb a0_0), (Sl (Ki .u32) a0_1), (Vi a0_2), (Vb a0_3), (Sl (Ki .u32) a0_4), (Vi a0_5)], 96, none⟩, ⟨.pointer (some q4), [(Vb a1_0), (Sl (Ki .u32) a1_1), (Vi a1_2), (Vb a1_3), (Sl (Ki .u32) a1_4), (Vi a1_5)], 96, none⟩, ⟨.pointer (some q5), [(Vb a2_0), (Sl (Ki .u32) a2_1), (Vi a2_2), (Vb a2_3), (Sl (Ki .u32) a2_4), (Vi a2_5)], 96, none⟩, ⟨.pointer (some q6), [(Vb false), Vn, (Vi 0), (Vb false), Vn, (Vi 0)], 76, none⟩, ⟨.pointer (some q9015), [(Vb r13.1), (Sl (Ki .u32) r13.2.1), (Vi r13.2.2)], 74, none⟩, ⟨.pointer (some q9016), [(Vb r18.1), (Sl (Ki .u32) r18.2.1), (Vi r18.2.2)], 74, none⟩]) (fun _ => rfl) rfl rfl) (wt_is' (wt_guard' rfl rfl rfl) (beq_ff h1)) fun ⟨⟩ => ?_
  refine sx_rd' (rd_bin' rfl rfl eg_int ru_leq) rfl rfl (wt_is' (wt_guard' rfl rfl rfl) (beq_ff h1)) ?_
  refine s0 (rd_pick_false' rfl h1 rfl) ?_
  refine sx_nil' ?_
  show TX E K6 _
  exact tx_pick' [1, 2, 3, 4, 5, 6, 0] (sub_cons rfl (sub_cons rfl (sub_cons rfl (sub_cons rfl (sub_cons rfl (sub_cons rfl (sub_cons rfl (sub_cons rfl sub_nil)))))))) (by decide) (pick_cons rfl (pick_cons rfl (pick_cons rfl (pick_cons rfl (pick_cons rfl (pick_cons rfl (pick_cons rfl pick_nil))))))) (hK6 (decide (r26 ≤ 0)) hp)
 intro hN14
 refine ax_node (f' := 1) #[true, true, true, true, true, true, true, true, true, true, true, false] (fun (v12 : Addr × Addr) => (⟨53, [], [(3, (Vp q3)), (4, (Vp q4)), (5, (Vp q5)), (6, (Vp q6)), (7, (Vp v12.1)), (8, (Vp v12.2)), (18, (Ag [(Vb r18.1), (Sl (Ki .u32) r18.2.1), (Vi r18.2.2)]))], [⟨.pointer (some q3), [(Vb a0_0), (Sl (Ki .u32) a0_1), (Vi a0_2), (Vb a0_3), (Sl (Ki .u32) a0_4), (Vi a0_5)], 96, none⟩, ⟨.pointer (some q4), [(Vb a1_0), (Sl (Ki .u32) a1_1), (Vi a1_2), (Vb a1_3), (Sl (Ki .u32) a1_4), (Vi a1_5)], 96, none⟩, ⟨.pointer (some q5), [(Vb a2_0), (Sl (Ki .u32) a2_1), (Vi a2_2), (Vb a2_3), (Sl (Ki .u32) a2_4), (Vi a2_5)], 96, none⟩, ⟨.pointer (some q6), [(Vb false), Vn, (Vi 0), (Vb false), Vn, (Vi 0)], 76, none⟩, ⟨.pointer (some v12.1), [(Vb r13.1), (Sl (Ki .u32) r13.2.1), (Vi r13.2.2)], 74, none⟩, ⟨.pointer (some v12.2), [(Vb false), Vn, (Vi 0)], 74, none⟩]⟩ : St)) ?_ ?_
 ·rintro ⟨q9013, q9014⟩
  refine ax_all (i := 11) (is := []) (by kernel_rfl) (all_cons ?_ all_nil)
  ·refine nx_oxv (last := #[true, true, true, true, true, true, true, true, true, true, true, true]) rfl (oxv_store (i := 5) (o := 0) rfl rfl (lv_ag _) ⟨rfl, rfl, rfl, rfl⟩ rfl info74 rfl (H' := [⟨.pointer (some q3), [(Vb a0_0), (Sl (Ki .u32) a0_1), (Vi a0_2), (Vb a0_3), (Sl (Ki .u32) a0_4), (Vi a0_5)], 96, none⟩, ⟨.pointer (some q4), [(Vb a1_0), (Sl (Ki .u32) a1_1), (Vi a1_2), (Vb a1_3), (Sl (Ki .u32) a1_4), (Vi a1_5)], 96, none⟩, ⟨.pointer (some q5), [(Vb a2_0), (Sl (Ki .u32) a2_1), (Vi a2_2), (Vb a2_3), (Sl (Ki .u32) a2_4), (Vi a2_5)], 96, none⟩, ⟨.pointer (some q6), [(Vb false), Vn, (Vi 0), (Vb false), Vn, (Vi 0)], 76, none⟩, ⟨.pointer (some q9013), [(Vb r13.1), (Sl (Ki .u32) r13.2.1), (Vi r13.2.2)], 74, none⟩, ⟨.pointer (some q9014), [(Vb r18.1), (Sl (Ki .u32) r18.2.1), (Vi r18.2.2)], 74, none⟩]) rfl) rfl rfl bo_nil (wt_none' rfl) rfl fun _ => ?_
   exact tx_pick' [0, 1, 2, 3, 4, 5] (sub_cons rfl (sub_cons rfl (sub_cons rfl (sub_cons rfl (sub_cons rfl (sub_cons rfl sub_nil)))))) (by decide) (pick_cons rfl (pick_cons rfl (pick_cons rfl (pick_cons rfl (pick_cons rfl (pick_cons rfl pick_nil)))))) (hN14 (q9013, q9014))
 intro hN13
 refine ax_node (f' := 2) #[true, true, true, true, true, true, true, true, true, true, false, false] (fun (v11 : Addr × Addr) => (⟨53, [], [(3, (Vp q3)), (4, (Vp q4)), (5, (Vp q5)), (6, (Vp q6)), (7, (Vp v11.1)), (8, (Vp v11.2)), (13, (Ag [(Vb r13.1), (Sl (Ki .u32) r13.2.1), (Vi r13.2.2)])), (18, (Ag [(Vb r18.1), (Sl (Ki .u32) r18.2.1), (Vi r18.2.2)]))], [⟨.pointer (some q3), [(Vb a0_0), (Sl (Ki .u32) a0_1), (Vi a0_2), (Vb a0_3), (Sl (Ki .u32) a0_4), (Vi a0_5)], 96, none⟩, ⟨.pointer (some q4), [(Vb a1_0), (Sl (Ki .u32) a1_1), (Vi a1_2), (Vb a1_3), (Sl (Ki .u32) a1_4), (Vi a1_5)], 96, none⟩, ⟨.pointer (some q5), [(Vb a2_0), (Sl (Ki .u32) a2_1), (Vi a2_2), (Vb a2_3), (Sl (Ki .u32) a2_4), (Vi a2_5)], 96, none⟩, ⟨.pointer (some q6), [(Vb false), Vn, (Vi 0), (Vb false), Vn, (Vi 0)], 76, none⟩, ⟨.pointer (some v11.1), [(Vb false), Vn, (Vi 0)], 74, none⟩, ⟨.pointer (some v11.2), [(Vb false), Vn, (Vi 0)], 74, none⟩]⟩ : St)) ?_ ?_
 ·rintro ⟨q9011, q9012⟩
  refine ax_all (i := 10) (is := []) (by kernel_rfl) (all_cons ?_ all_nil)
  ·refine nx_oxv (last := #[true, true, true, true, true, true, true, true, true, true, true, false]) rfl (oxv_store (i := 4) (o := 0) rfl rfl (lv_ag _) ⟨rfl, rfl, rfl, rfl⟩ rfl info74 rfl (H' := [⟨.pointer (some q3), [(Vb a0_0), (Sl (Ki .u32) a0_1), (Vi a0_2), (Vb a0_3), (Sl (Ki .u32) a0_4), (Vi a0_5)], 96, none⟩, ⟨.pointer (some q4), [(Vb a1_0), (Sl (Ki .u32) a1_1), (Vi a1_2), (Vb a1_3), (Sl (Ki .u32) a1_4), (Vi a1_5)], 96, none⟩, ⟨.pointer (some q5), [(Vb a2_0), (Sl (Ki .u32) a2_1), (Vi a2_2), (Vb a2_3), (Sl (Ki .u32) a2_4), (Vi a2_5)], 96, none⟩, ⟨.pointer (some q6), [(Vb false), Vn, (Vi 0), (Vb false), Vn, (Vi 0)], 76, none⟩, ⟨.pointer (some q9011), [(Vb r13.1), (Sl (Ki .u32) r13.2.1), (Vi r13.2.2)], 74, none⟩, ⟨.pointer (some q9012), [(Vb false), Vn, (Vi 0)], 74, none⟩]) rfl) rfl rfl bo_nil (wt_none' rfl) rfl fun _ => ?_
   exact tx_pick' [0, 1, 2, 3, 4, 5] (sub_cons rfl (sub_cons rfl (sub_cons rfl (sub_cons rfl (sub_cons rfl (sub_cons rfl (sub_cons rfl sub_nil))))))) (by decide) (pick_cons rfl (pick_cons rfl (pick_cons rfl (pick_cons rfl (pick_cons rfl (pick_cons rfl pick_nil)))))) (hN13 (q9011, q9012))
 intro hN12
 refine ax_node (f' := 3) #[true, true, true, true, true, true, true, true, true, false, false, false] (fun (v8 : Addr) => (⟨53, [], [(3, (Vp q3)), (4, (Vp q4)), (5, (Vp q5)), (6, (Vp q6)), (7, (Vp v8)), (13, (Ag [(Vb r13.1), (Sl (Ki .u32) r13.2.1), (Vi r13.2.2)])), (18, (Ag [(Vb r18.1), (Sl (Ki .u32) r18.2.1), (Vi r18.2.2)]))], [⟨.pointer (some q3), [(Vb a0_0), (Sl (Ki .u32) a0_1), (Vi a0_2), (Vb a0_3), (Sl (Ki .u32) a0_4), (Vi a0_5)], 96, none⟩, ⟨.pointer (some q4), [(Vb a1_0), (Sl (Ki .u32) a1_1), (Vi a1_2), (Vb a1_3), (Sl (Ki .u32) a1_4), (Vi a1_5)], 96, none⟩, ⟨.pointer (some q5), [(Vb a2_0), (Sl (Ki .u32) a2_1), (Vi a2_2), (Vb a2_3), (Sl (Ki .u32) a2_4), (Vi a2_5)], 96, none⟩, ⟨.pointer (some q6), [(Vb false), Vn, (Vi 0), (Vb false), Vn, (Vi 0)], 76, none⟩, ⟨.pointer (some v8), [(Vb false), Vn, (Vi 0)], 74, none⟩]⟩ : St)) ?_ ?_
 ·rintro q907
  refine ax_all (i := 9) (is := []) (by kernel_rfl) (all_cons ?_ all_nil)
  ·refine nx_ox (last := #[true, true, true, true, true, true, true, true, true, true, false, false]) rfl (ox_alloc' info74 rfl rfl rfl rfl (l := [(Vb false), Vn, (Vi 0)]) rfl) rfl bs_nil (wt_none' rfl) rfl fun q8 => ?_
   exact tx_pick' [1, 2, 3, 4, 5, 0] (sub_cons rfl (sub_cons rfl (sub_cons rfl (sub_cons rfl (sub_cons rfl (sub_cons rfl (sub_cons rfl (sub_cons rfl sub_nil)))))))) (by decide) (pick_cons rfl (pick_cons rfl (pick_cons rfl (pick_cons rfl (pick_cons rfl (pick_cons rfl pick_nil)))))) (hN12 (q907, q8))
 intro hN9
 refine ax_node (f' := 3) #[true, true, true, true, true, true, true, true, false, true, false, false] (fun (v9 : Addr) => (⟨53, [], [(3, (Vp q3)), (4, (Vp q4)), (5, (Vp q5)), (6, (Vp q6)), (8, (Vp v9)), (13, (Ag [(Vb r13.1), (Sl (Ki .u32) r13.2.1), (Vi r13.2.2)])), (18, (Ag [(Vb r18.1), (Sl (Ki .u32) r18.2.1), (Vi r18.2.2)]))], [⟨.pointer (some q3), [(Vb a0_0), (Sl (Ki .u32) a0_1), (Vi a0_2), (Vb a0_3), (Sl (Ki .u32) a0_4), (Vi a0_5)], 96, none⟩, ⟨.pointer (some q4), [(Vb a1_0), (Sl (Ki .u32) a1_1), (Vi a1_2), (Vb a1_3), (Sl (Ki .u32) a1_4), (Vi a1_5)], 96, none⟩, ⟨.pointer (some q5), [(Vb a2_0), (Sl (Ki .u32) a2_1), (Vi a2_2), (Vb a2_3), (Sl (Ki .u32) a2_4), (Vi a2_5)], 96, none⟩, ⟨.pointer (some q6), [(Vb false), Vn, (Vi 0), (Vb false), Vn, (Vi 0)], 76, none⟩, ⟨.pointer (some v9), [(Vb false), Vn, (Vi 0)], 74, none⟩]⟩ : St)) ?_ ?_
 ·rintro q908
  refine ax_all (i := 8) (is := []) (by kernel_rfl) (all_cons ?_ all_nil)
  ·refine nx_ox (last := #[true, true, true, true, true, true, true, true, true, true, false, false]) rfl (ox_alloc' info74 rfl rfl rfl rfl (l := [(Vb false), Vn, (Vi 0)]) rfl) rfl bs_nil (wt_none' rfl) rfl fun q7 => ?_
   exact tx_pick' [1, 2, 3, 4, 0, 5] (sub_cons rfl (sub_cons rfl (sub_cons rfl (sub_cons rfl (sub_cons rfl (sub_cons rfl (sub_cons rfl (sub_cons rfl sub_nil)))))))) (by decide) (pick_cons rfl (pick_cons rfl (pick_cons rfl (pick_cons rfl (pick_cons rfl (pick_cons rfl pick_nil)))))) (hN12 (q7, q908))
 intro hN10
 refine ax_node (f' := 3) #[true, true, true, true, true, true, true, false, true, true, false, false] (fun (v10 : Addr × Addr) => (⟨53, [], [(3, (Vp q3)), (4, (Vp q4)), (5, (Vp q5)), (6, (Vp q6)), (7, (Vp v10.1)), (8, (Vp v10.2)), (13, (Ag [(Vb r13.1), (Sl (Ki .u32) r13.2.1), (Vi r13.2.2)])), (14, (Ag [(Vb a1_0), (Sl (Ki .u32) a1_1), (Vi a1_2), (Vb a1_3), (Sl (Ki .u32) a1_4), (Vi a1_5)])), (15, (Ag [(Vb a2_0), (Sl (Ki .u32) a2_1), (Vi a2_2), (Vb a2_3), (Sl (Ki .u32) a2_4), (Vi a2_5)])), (16, (Ag [(Vb a1_0), (Sl (Ki .u32) a1_1), (Vi a1_2), (Vb a1_3), (Sl (Ki .u32) a1_4), (Vi a1_5)])), (17, (Ag [(Vb a0_0), (Sl (Ki .u32) a0_1), (Vi a0_2), (Vb a0_3), (Sl (Ki .u32) a0_4), (Vi a0_5)]))], [⟨.pointer (some q3), [(Vb a0_0), (Sl (Ki .u32) a0_1), (Vi a0_2), (Vb a0_3), (Sl (Ki .u32) a0_4), (Vi a0_5)], 96, none⟩, ⟨.pointer (some q4), [(Vb a1_0), (Sl (Ki .u32) a1_1), (Vi a1_2), (Vb a1_3), (Sl (Ki .u32) a1_4), (Vi a1_5)], 96, none⟩, ⟨.pointer (some q5), [(Vb a2_0), (Sl (Ki .u32) a2_1), (Vi a2_2), (Vb a2_3), (Sl (Ki .u32) a2_4), (Vi a2_5)], 96, none⟩, ⟨.pointer (some q6), [(Vb false), Vn, (Vi 0), (Vb false), Vn, (Vi 0)], 76, none⟩, ⟨.pointer (some v10.1), [(Vb false), Vn, (Vi 0)], 74, none⟩, ⟨.pointer (some v10.2), [(Vb false), Vn, (Vi 0)], 74, none⟩]⟩ : St)) ?_ ?_
 ·rintro ⟨q909, q9010⟩
  refine ax_all (i := 7) (is := []) (by kernel_rfl) (all_cons ?_ all_nil)
  ·refine nx_ox (last := #[true, true, true, true, true, true, true, true, true, true, false, false]) rfl (ox_calln' (ent_fn' Try.func95 isn95 rfl rfl) (spec_Dot_sim _ _ _ _ _ _ _ _ _ _ _ _ _ _ _ _ _ _ _ _ _ _ _ _ hr18 : Sx.Fn Try.prog 95 [(Ag [(Vb a1_0), (Sl (Ki .u32) a1_1), (Vi a1_2), (Vb a1_3), (Sl (Ki .u32) a1_4), (Vi a1_5)]), (Ag [(Vb a2_0), (Sl (Ki .u32) a2_1), (Vi a2_2), (Vb a2_3), (Sl (Ki .u32) a2_4), (Vi a2_5)]), (Ag [(Vb a1_0), (Sl (Ki .u32) a1_1), (Vi a1_2), (Vb a1_3), (Sl (Ki .u32) a1_4), (Vi a1_5)]), (Ag [(Vb a0_0), (Sl (Ki .u32) a0_1), (Vi a0_2), (Vb a0_3), (Sl (Ki .u32) a0_4), (Vi a0_5)])] [] (fun x : Unit => (Ag [(Vb r18.1), (Sl (Ki .u32) r18.2.1), (Vi r18.2.2)])) (fun x => [])) (Hn := fun x : Unit => [⟨.pointer (some q3), [(Vb a0_0), (Sl (Ki .u32) a0_1), (Vi a0_2), (Vb a0_3), (Sl (Ki .u32) a0_4), (Vi a0_5)], 96, none⟩, ⟨.pointer (some q4), [(Vb a1_0), (Sl (Ki .u32) a1_1), (Vi a1_2), (Vb a1_3), (Sl (Ki .u32) a1_4), (Vi a1_5)], 96, none⟩, ⟨.pointer (some q5), [(Vb a2_0), (Sl (Ki .u32) a2_1), (Vi a2_2), (Vb a2_3), (Sl (Ki .u32) a2_4), (Vi a2_5)], 96, none⟩, ⟨.pointer (some q6), [(Vb false), Vn, (Vi 0), (Vb false), Vn, (Vi 0)], 76, none⟩, ⟨.pointer (some q909), [(Vb false), Vn, (Vi 0)], 74, none⟩, ⟨.pointer (some q9010), [(Vb false), Vn, (Vi 0)], 74, none⟩]) (fun _ => rfl) rfl rfl) rfl bs_nil (wt_none' rfl) rfl fun ⟨⟩ => ?_
   exact tx_pick' [0, 1, 2, 3, 4, 5] (sub_cons rfl (sub_cons rfl (sub_cons rfl (sub_cons rfl (sub_cons rfl (sub_cons rfl (sub_cons rfl (sub_cons rfl sub_nil)))))))) (by decide) (pick_cons rfl (pick_cons rfl (pick_cons rfl (pick_cons rfl (pick_cons rfl (pick_cons rfl pick_nil)))))) (hN12 (q909, q9010))
 intro hN11
 refine ax_node (f' := 4) #[true, true, true, true, true, true, true, true, false, false, false, false] (fun (v4 : Unit) => (⟨53, [], [(3, (Vp q3)), (4, (Vp q4)), (5, (Vp q5)), (6, (Vp q6)), (13, (Ag [(Vb r13.1), (Sl (Ki .u32) r13.2.1), (Vi r13.2.2)])), (18, (Ag [(Vb r18.1), (Sl (Ki .u32) r18.2.1), (Vi r18.2.2)]))], [⟨.pointer (some q3), [(Vb a0_0), (Sl (Ki .u32) a0_1), (Vi a0_2), (Vb a0_3), (Sl (Ki .u32) a0_4), (Vi a0_5)], 96, none⟩, ⟨.pointer (some q4), [(Vb a1_0), (Sl (Ki .u32) a1_1), (Vi a1_2), (Vb a1_3), (Sl (Ki .u32) a1_4), (Vi a1_5)], 96, none⟩, ⟨.pointer (some q5), [(Vb a2_0), (Sl (Ki .u32) a2_1), (Vi a2_2), (Vb a2_3), (Sl (Ki .u32) a2_4), (Vi a2_5)], 96, none⟩, ⟨.pointer (some q6), [(Vb false), Vn, (Vi 0), (Vb false), Vn, (Vi 0)], 76, none⟩]⟩ : St)) ?_ ?_
 ·rintro ⟨⟩
  refine ax_all (i := 8) (is := [9]) (by kernel_rfl) (all_cons ?_ (all_cons ?_ all_nil))
  ·refine nx_ox (last := #[true, true, true, true, true, true, true, true, true, false, false, false]) rfl (ox_alloc' info74 rfl rfl rfl rfl (l := [(Vb false), Vn, (Vi 0)]) rfl) rfl bs_nil (wt_none' rfl) rfl fun q7 => ?_
   exact tx_pick' [1, 2, 3, 4, 0] (sub_cons rfl (sub_cons rfl (sub_cons rfl (sub_cons rfl (sub_cons rfl (sub_cons rfl (sub_cons rfl sub_nil))))))) (by decide) (pick_cons rfl (pick_cons rfl (pick_cons rfl (pick_cons rfl (pick_cons rfl pick_nil))))) (hN9 q7)
  refine nx_ox (last := #[true, true, true, true, true, true, true, true, false, true, false, false]) rfl (ox_alloc' info74 rfl rfl rfl rfl (l := [(Vb false), Vn, (Vi 0)]) rfl) rfl bs_nil (wt_none' rfl) rfl fun q8 => ?_
  exact tx_pick' [1, 2, 3, 4, 0] (sub_cons rfl (sub_cons rfl (sub_cons rfl (sub_cons rfl (sub_cons rfl (sub_cons rfl (sub_cons rfl sub_nil))))))) (by decide) (pick_cons rfl (pick_cons rfl (pick_cons rfl (pick_cons rfl (pick_cons rfl pick_nil))))) (hN10 q8)
 intro hN5
 refine ax_node (f' := 4) #[true, true, true, true, true, true, true, false, true, false, false, false] (fun (v5 : Addr) => (⟨53, [], [(3, (Vp q3)), (4, (Vp q4)), (5, (Vp q5)), (6, (Vp q6)), (7, (Vp v5)), (13, (Ag [(Vb r13.1), (Sl (Ki .u32) r13.2.1), (Vi r13.2.2)])), (14, (Ag [(Vb a1_0), (Sl (Ki .u32) a1_1), (Vi a1_2), (Vb a1_3), (Sl (Ki .u32) a1_4), (Vi a1_5)])), (15, (Ag [(Vb a2_0), (Sl (Ki .u32) a2_1), (Vi a2_2), (Vb a2_3), (Sl (Ki .u32) a2_4), (Vi a2_5)])), (16, (Ag [(Vb a1_0), (Sl (Ki .u32) a1_1), (Vi a1_2), (Vb a1_3), (Sl (Ki .u32) a1_4), (Vi a1_5)])), (17, (Ag [(Vb a0_0), (Sl (Ki .u32) a0_1), (Vi a0_2), (Vb a0_3), (Sl (Ki .u32) a0_4), (Vi a0_5)]))], [⟨.pointer (some q3), [(Vb a0_0), (Sl (Ki .u32) a0_1), (Vi a0_2), (Vb a0_3), (Sl (Ki .u32) a0_4), (Vi a0_5)], 96, none⟩, ⟨.pointer (some q4), [(Vb a1_0), (Sl (Ki .u32) a1_1), (Vi a1_2), (Vb a1_3), (Sl (Ki .u32) a1_4), (Vi a1_5)], 96, none⟩, ⟨.pointer (some q5), [(Vb a2_0), (Sl (Ki .u32) a2_1), (Vi a2_2), (Vb a2_3), (Sl (Ki .u32) a2_4), (Vi a2_5)], 96, none⟩, ⟨.pointer (some q6), [(Vb false), Vn, (Vi 0), (Vb false), Vn, (Vi 0)], 76, none⟩, ⟨.pointer (some v5), [(Vb false), Vn, (Vi 0)], 74, none⟩]⟩ : St)) ?_ ?_
 ·rintro q903
  refine ax_all (i := 7) (is := [9]) (by kernel_rfl) (all_cons ?_ (all_cons ?_ all_nil))
  ·refine nx_ox (last := #[true, true, true, true, true, true, true, true, true, false, false, false]) rfl (ox_calln' (ent_fn' Try.func95 isn95 rfl rfl) (spec_Dot_sim _ _ _ _ _ _ _ _ _ _ _ _ _ _ _ _ _ _ _ _ _ _ _ _ hr18 : Sx.Fn Try.prog 95 [(Ag [(Vb a1_0), (Sl (Ki .u32) a1_1), (Vi a1_2), (Vb a1_3), (Sl (Ki .u32) a1_4), (Vi a1_5)]), (Ag [(Vb a2_0), (Sl (Ki .u32) a2_1), (Vi a2_2), (Vb a2_3), (Sl (Ki .u32) a2_4), (Vi a2_5)]), (Ag [(Vb a1_0), (Sl (Ki .u32) a1_1), (Vi a1_2), (Vb a1_3), (Sl (Ki .u32) a1_4), (Vi a1_5)]), (Ag [(Vb a0_0), (Sl (Ki .u32) a0_1), (Vi a0_2), (Vb a0_3), (Sl (Ki .u32) a0_4), (Vi a0_5)])] [] (fun x : Unit => (Ag [(Vb r18.1), (Sl (Ki .u32) r18.2.1), (Vi r18.2.2)])) (fun x => [])) (Hn := fun x : Unit => [⟨.pointer (some q3), [(Vb a0_0), (Sl (Ki .u32) a0_1), (Vi a0_2), (Vb a0_3), (Sl (Ki .u32) a0_4), (Vi a0_5)], 96, none⟩, ⟨.pointer (some q4), [(Vb a1_0), (Sl (Ki .u32) a1_1), (Vi a1_2), (Vb a1_3), (Sl (Ki .u32) a1_4), (Vi a1_5)], 96, none⟩, ⟨.pointer (some q5), [(Vb a2_0), (Sl (Ki .u32) a2_1), (Vi a2_2), (Vb a2_3), (Sl (Ki .u32) a2_4), (Vi a2_5)], 96, none⟩, ⟨.pointer (some q6), [(Vb false), Vn, (Vi 0), (Vb false), Vn, (Vi 0)], 76, none⟩, ⟨.pointer (some q903), [(Vb false), Vn, (Vi 0)], 74, none⟩]) (fun _ => rfl) rfl rfl) rfl bs_nil (wt_none' rfl) rfl fun ⟨⟩ => ?_
   exact tx_pick' [0, 1, 2, 3, 4] (sub_cons rfl (sub_cons rfl (sub_cons rfl (sub_cons rfl (sub_cons rfl (sub_cons rfl (sub_cons rfl sub_nil))))))) (by decide) (pick_cons rfl (pick_cons rfl (pick_cons rfl (pick_cons rfl (pick_cons rfl pick_nil))))) (hN9 q903)
  refine nx_ox (last := #[true, true, true, true, true, true, true, false, true, true, false, false]) rfl (ox_alloc' info74 rfl rfl rfl rfl (l := [(Vb false), Vn, (Vi 0)]) rfl) rfl bs_nil (wt_none' rfl) rfl fun q8 => ?_
  exact tx_pick' [1, 2, 3, 4, 5, 0] (sub_cons rfl (sub_cons rfl (sub_cons rfl (sub_cons rfl (sub_cons rfl (sub_cons rfl (sub_cons rfl (sub_cons rfl (sub_cons rfl (sub_cons rfl (sub_cons rfl sub_nil))))))))))) (by decide) (pick_cons rfl (pick_cons rfl (pick_cons rfl (pick_cons rfl (pick_cons rfl (pick_cons rfl pick_nil)))))) (hN11 (q903, q8))
 intro hN6
 refine ax_node (f' := 4) #[true, true, true, true, true, true, true, false, false, true, false, false] (fun (v6 : Addr) => (⟨53, [], [(3, (Vp q3)), (4, (Vp q4)), (5, (Vp q5)), (6, (Vp q6)), (8, (Vp v6)), (13, (Ag [(Vb r13.1), (Sl (Ki .u32) r13.2.1), (Vi r13.2.2)])), (14, (Ag [(Vb a1_0), (Sl (Ki .u32) a1_1), (Vi a1_2), (Vb a1_3), (Sl (Ki .u32) a1_4), (Vi a1_5)])), (15, (Ag [(Vb a2_0), (Sl (Ki .u32) a2_1), (Vi a2_2), (Vb a2_3), (Sl (Ki .u32) a2_4), (Vi a2_5)])), (16, (Ag [(Vb a1_0), (Sl (Ki .u32) a1_1), (Vi a1_2), (Vb a1_3), (Sl (Ki .u32) a1_4), (Vi a1_5)])), (17, (Ag [(Vb a0_0), (Sl (Ki .u32) a0_1), (Vi a0_2), (Vb a0_3), (Sl (Ki .u32) a0_4), (Vi a0_5)]))], [⟨.pointer (some q3), [(Vb a0_0), (Sl (Ki .u32) a0_1), (Vi a0_2), (Vb a0_3), (Sl (Ki .u32) a0_4), (Vi a0_5)], 96, none⟩, ⟨.pointer (some q4), [(Vb a1_0), (Sl (Ki .u32) a1_1), (Vi a1_2), (Vb a1_3), (Sl (Ki .u32) a1_4), (Vi a1_5)], 96, none⟩, ⟨.pointer (some q5), [(Vb a2_0), (Sl (Ki .u32) a2_1), (Vi a2_2), (Vb a2_3), (Sl (Ki .u32) a2_4), (Vi a2_5)], 96, none⟩, ⟨.pointer (some q6), [(Vb false), Vn, (Vi 0), (Vb false), Vn, (Vi 0)], 76, none⟩, ⟨.pointer (some v6), [(Vb false), Vn, (Vi 0)], 74, none⟩]⟩ : St)) ?_ ?_
 ·rintro q904
  refine ax_all (i := 7) (is := [8]) (by kernel_rfl) (all_cons ?_ (all_cons ?_ all_nil))
  ·refine nx_ox (last := #[true, true, true, true, true, true, true, true, false, true, false, false]) rfl (ox_calln' (ent_fn' Try.func95 isn95 rfl rfl) (spec_Dot_sim _ _ _ _ _ _ _ _ _ _ _ _ _ _ _ _ _ _ _ _ _ _ _ _ hr18 : Sx.Fn Try.prog 95 [(Ag [(Vb a1_0), (Sl (Ki .u32) a1_1), (Vi a1_2), (Vb a1_3), (Sl (Ki .u32) a1_4), (Vi a1_5)]), (Ag [(Vb a2_0), (Sl (Ki .u32) a2_1), (Vi a2_2), (Vb a2_3), (Sl (Ki .u32) a2_4), (Vi a2_5)]), (Ag [(Vb a1_0), (Sl (Ki .u32) a1_1), (Vi a1_2), (Vb a1_3), (Sl (Ki .u32) a1_4), (Vi a1_5)]), (Ag [(Vb a0_0), (Sl (Ki .u32) a0_1), (Vi a0_2), (Vb a0_3), (Sl (Ki .u32) a0_4), (Vi a0_5)])] [] (fun x : Unit => (Ag [(Vb r18.1), (Sl (Ki .u32) r18.2.1), (Vi r18.2.2)])) (fun x => [])) (Hn := fun x : Unit => [⟨.pointer (some q3), [(Vb a0_0), (Sl (Ki .u32) a0_1), (Vi a0_2), (Vb a0_3), (Sl (Ki .u32) a0_4), (Vi a0_5)], 96, none⟩, ⟨.pointer (some q4), [(Vb a1_0), (Sl (Ki .u32) a1_1), (Vi a1_2), (Vb a1_3), (Sl (Ki .u32) a1_4), (Vi a1_5)], 96, none⟩, ⟨.pointer (some q5), [(Vb a2_0), (Sl (Ki .u32) a2_1), (Vi a2_2), (Vb a2_3), (Sl (Ki .u32) a2_4), (Vi a2_5)], 96, none⟩, ⟨.pointer (some q6), [(Vb false), Vn, (Vi 0), (Vb false), Vn, (Vi 0)], 76, none⟩, ⟨.pointer (some q904), [(Vb false), Vn, (Vi 0)], 74, none⟩]) (fun _ => rfl) rfl rfl) rfl bs_nil (wt_none' rfl) rfl fun ⟨⟩ => ?_
   exact tx_pick' [0, 1, 2, 3, 4] (sub_cons rfl (sub_cons rfl (sub_cons rfl (sub_cons rfl (sub_cons rfl (sub_cons rfl (sub_cons rfl sub_nil))))))) (by decide) (pick_cons rfl (pick_cons rfl (pick_cons rfl (pick_cons rfl (pick_cons rfl pick_nil))))) (hN10 q904)
  refine nx_ox (last := #[true, true, true, true, true, true, true, false, true, true, false, false]) rfl (ox_alloc' info74 rfl rfl rfl rfl (l := [(Vb false), Vn, (Vi 0)]) rfl) rfl bs_nil (wt_none' rfl) rfl fun q7 => ?_
  exact tx_pick' [1, 2, 3, 4, 0, 5] (sub_cons rfl (sub_cons rfl (sub_cons rfl (sub_cons rfl (sub_cons rfl (sub_cons rfl (sub_cons rfl (sub_cons rfl (sub_cons rfl (sub_cons rfl (sub_cons rfl sub_nil))))))))))) (by decide) (pick_cons rfl (pick_cons rfl (pick_cons rfl (pick_cons rfl (pick_cons rfl (pick_cons rfl pick_nil)))))) (hN11 (q7, q904))
 intro hN7
 refine ax_node (f' := 4) #[true, true, false, true, true, true, true, false, true, true, false, false] (fun (v7 : Addr × Addr) => (⟨53, [], [(3, (Vp q3)), (4, (Vp q4)), (5, (Vp q5)), (6, (Vp q6)), (7, (Vp v7.1)), (8, (Vp v7.2)), (11, (Ag [(Vb a1_0), (Sl (Ki .u32) a1_1), (Vi a1_2), (Vb a1_3), (Sl (Ki .u32) a1_4), (Vi a1_5)])), (12, (Ag [(Vb a2_0), (Sl (Ki .u32) a2_1), (Vi a2_2), (Vb a2_3), (Sl (Ki .u32) a2_4), (Vi a2_5)])), (14, (Ag [(Vb a1_0), (Sl (Ki .u32) a1_1), (Vi a1_2), (Vb a1_3), (Sl (Ki .u32) a1_4), (Vi a1_5)])), (15, (Ag [(Vb a2_0), (Sl (Ki .u32) a2_1), (Vi a2_2), (Vb a2_3), (Sl (Ki .u32) a2_4), (Vi a2_5)])), (16, (Ag [(Vb a1_0), (Sl (Ki .u32) a1_1), (Vi a1_2), (Vb a1_3), (Sl (Ki .u32) a1_4), (Vi a1_5)])), (17, (Ag [(Vb a0_0), (Sl (Ki .u32) a0_1), (Vi a0_2), (Vb a0_3), (Sl (Ki .u32) a0_4), (Vi a0_5)]))], [⟨.pointer (some q3), [(Vb a0_0), (Sl (Ki .u32) a0_1), (Vi a0_2), (Vb a0_3), (Sl (Ki .u32) a0_4), (Vi a0_5)], 96, none⟩, ⟨.pointer (some q4), [(Vb a1_0), (Sl (Ki .u32) a1_1), (Vi a1_2), (Vb a1_3), (Sl (Ki .u32) a1_4), (Vi a1_5)], 96, none⟩, ⟨.pointer (some q5), [(Vb a2_0), (Sl (Ki .u32) a2_1), (Vi a2_2), (Vb a2_3), (Sl (Ki .u32) a2_4), (Vi a2_5)], 96, none⟩, ⟨.pointer (some q6), [(Vb false), Vn, (Vi 0), (Vb false), Vn, (Vi 0)], 76, none⟩, ⟨.pointer (some v7.1), [(Vb false), Vn, (Vi 0)], 74, none⟩, ⟨.pointer (some v7.2), [(Vb false), Vn, (Vi 0)], 74, none⟩]⟩ : St)) ?_ ?_
 ·rintro ⟨q905, q906⟩
  refine ax_all (i := 2) (is := []) (by kernel_rfl) (all_cons ?_ all_nil)
  ·refine nx_ox (last := #[true, true, true, true, true, true, true, false, true, true, false, false]) rfl (ox_calln' (ent_fn' Try.func107 isn107 rfl rfl) (spec_Square_sim _ _ _ _ _ _ _ _ _ _ _ _ hr13 : Sx.Fn Try.prog 107 [(Ag [(Vb a1_0), (Sl (Ki .u32) a1_1), (Vi a1_2), (Vb a1_3), (Sl (Ki .u32) a1_4), (Vi a1_5)]), (Ag [(Vb a2_0), (Sl (Ki .u32) a2_1), (Vi a2_2), (Vb a2_3), (Sl (Ki .u32) a2_4), (Vi a2_5)])] [] (fun x : Unit => (Ag [(Vb r13.1), (Sl (Ki .u32) r13.2.1), (Vi r13.2.2)])) (fun x => [])) (Hn := fun x : Unit => [⟨.pointer (some q3), [(Vb a0_0), (Sl (Ki .u32) a0_1), (Vi a0_2), (Vb a0_3), (Sl (Ki .u32) a0_4), (Vi a0_5)], 96, none⟩, ⟨.pointer (some q4), [(Vb a1_0), (Sl (Ki .u32) a1_1), (Vi a1_2), (Vb a1_3), (Sl (Ki .u32) a1_4), (Vi a1_5)], 96, none⟩, ⟨.pointer (some q5), [(Vb a2_0), (Sl (Ki .u32) a2_1), (Vi a2_2), (Vb a2_3), (Sl (Ki .u32) a2_4), (Vi a2_5)], 96, none⟩, ⟨.pointer (some q6), [(Vb false), Vn, (Vi 0), (Vb false), Vn, (Vi 0)], 76, none⟩, ⟨.pointer (some q905), [(Vb false), Vn, (Vi 0)], 74, none⟩, ⟨.pointer (some q906), [(Vb false), Vn, (Vi 0)], 74, none⟩]) (fun _ => rfl) rfl rfl) rfl bs_nil (wt_none' rfl) rfl fun ⟨⟩ => ?_
   exact tx_pick' [0, 1, 2, 3, 4, 5] (sub_cons rfl (sub_cons rfl (sub_cons rfl (sub_cons rfl (sub_cons rfl (sub_cons rfl (sub_cons rfl (sub_cons rfl (sub_cons rfl (sub_cons rfl (sub_cons rfl sub_nil))))))))))) (by decide) (pick_cons rfl (pick_cons rfl (pick_cons rfl (pick_cons rfl (pick_cons rfl (pick_cons rfl pick_nil)))))) (hN11 (q905, q906))
 intro hN8
 refine ax_node (f' := 5) #[true, true, true, true, true, true, true, false, false, false, false, false] (fun (v1 : Unit) => (⟨53, [], [(3, (Vp q3)), (4, (Vp q4)), (5, (Vp q5)), (6, (Vp q6)), (13, (Ag [(Vb r13.1), (Sl (Ki .u32) r13.2.1), (Vi r13.2.2)])), (14, (Ag [(Vb a1_0), (Sl (Ki .u32) a1_1), (Vi a1_2), (Vb a1_3), (Sl (Ki .u32) a1_4), (Vi a1_5)])), (15, (Ag [(Vb a2_0), (Sl (Ki .u32) a2_1), (Vi a2_2), (Vb a2_3), (Sl (Ki .u32) a2_4), (Vi a2_5)])), (16, (Ag [(Vb a1_0), (Sl (Ki .u32) a1_1), (Vi a1_2), (Vb a1_3), (Sl (Ki .u32) a1_4), (Vi a1_5)])), (17, (Ag [(Vb a0_0), (Sl (Ki .u32) a0_1), (Vi a0_2), (Vb a0_3), (Sl (Ki .u32) a0_4), (Vi a0_5)]))], [⟨.pointer (some q3), [(Vb a0_0), (Sl (Ki .u32) a0_1), (Vi a0_2), (Vb a0_3), (Sl (Ki .u32) a0_4), (Vi a0_5)], 96, none⟩, ⟨.pointer (some q4), [(Vb a1_0), (Sl (Ki .u32) a1_1), (Vi a1_2), (Vb a1_3), (Sl (Ki .u32) a1_4), (Vi a1_5)], 96, none⟩, ⟨.pointer (some q5), [(Vb a2_0), (Sl (Ki .u32) a2_1), (Vi a2_2), (Vb a2_3), (Sl (Ki .u32) a2_4), (Vi a2_5)], 96, none⟩, ⟨.pointer (some q6), [(Vb false), Vn, (Vi 0), (Vb false), Vn, (Vi 0)], 76, none⟩]⟩ : St)) ?_ ?_
 ·rintro ⟨⟩
  refine ax_all (i := 7) (is := [8, 9]) (by kernel_rfl) (all_cons ?_ (all_cons ?_ (all_cons ?_ all_nil)))
  ·refine nx_ox (last := #[true, true, true, true, true, true, true, true, false, false, false, false]) rfl (ox_calln' (ent_fn' Try.func95 isn95 rfl rfl) (spec_Dot_sim _ _ _ _ _ _ _ _ _ _ _ _ _ _ _ _ _ _ _ _ _ _ _ _ hr18 : Sx.Fn Try.prog 95 [(Ag [(Vb a1_0), (Sl (Ki .u32) a1_1), (Vi a1_2), (Vb a1_3), (Sl (Ki .u32) a1_4), (Vi a1_5)]), (Ag [(Vb a2_0), (Sl (Ki .u32) a2_1), (Vi a2_2), (Vb a2_3), (Sl (Ki .u32) a2_4), (Vi a2_5)]), (Ag [(Vb a1_0), (Sl (Ki .u32) a1_1), (Vi a1_2), (Vb a1_3), (Sl (Ki .u32) a1_4), (Vi a1_5)]), (Ag [(Vb a0_0), (Sl (Ki .u32) a0_1), (Vi a0_2), (Vb a0_3), (Sl (Ki .u32) a0_4), (Vi a0_5)])] [] (fun x : Unit => (Ag [(Vb r18.1), (Sl (Ki .u32) r18.2.1), (Vi r18.2.2)])) (fun x => [])) (Hn := fun x : Unit => [⟨.pointer (some q3), [(Vb a0_0), (Sl (Ki .u32) a0_1), (Vi a0_2), (Vb a0_3), (Sl (Ki .u32) a0_4), (Vi a0_5)], 96, none⟩, ⟨.pointer (some q4), [(Vb a1_0), (Sl (Ki .u32) a1_1), (Vi a1_2), (Vb a1_3), (Sl (Ki .u32) a1_4), (Vi a1_5)], 96, none⟩, ⟨.pointer (some q5), [(Vb a2_0), (Sl (Ki .u32) a2_1), (Vi a2_2), (Vb a2_3), (Sl (Ki .u32) a2_4), (Vi a2_5)], 96, none⟩, ⟨.pointer (some q6), [(Vb false), Vn, (Vi 0), (Vb false), Vn, (Vi 0)], 76, none⟩]) (fun _ => rfl) rfl rfl) rfl bs_nil (wt_none' rfl) rfl fun ⟨⟩ => ?_
   exact tx_pick' [0, 1, 2, 3] (sub_cons rfl (sub_cons rfl (sub_cons rfl (sub_cons rfl (sub_cons rfl (sub_cons rfl sub_nil)))))) (by decide) (pick_cons rfl (pick_cons rfl (pick_cons rfl (pick_cons rfl pick_nil)))) (hN5 ())
  ·refine nx_ox (last := #[true, true, true, true, true, true, true, false, true, false, false, false]) rfl (ox_alloc' info74 rfl rfl rfl rfl (l := [(Vb false), Vn, (Vi 0)]) rfl) rfl bs_nil (wt_none' rfl) rfl fun q7 => ?_
   exact tx_pick' [1, 2, 3, 4, 0] (sub_cons rfl (sub_cons rfl (sub_cons rfl (sub_cons rfl (sub_cons rfl (sub_cons rfl (sub_cons rfl (sub_cons rfl (sub_cons rfl (sub_cons rfl sub_nil)))))))))) (by decide) (pick_cons rfl (pick_cons rfl (pick_cons rfl (pick_cons rfl (pick_cons rfl pick_nil))))) (hN6 q7)
  refine nx_ox (last := #[true, true, true, true, true, true, true, false, false, true, false, false]) rfl (ox_alloc' info74 rfl rfl rfl rfl (l := [(Vb false), Vn, (Vi 0)]) rfl) rfl bs_nil (wt_none' rfl) rfl fun q8 => ?_
  exact tx_pick' [1, 2, 3, 4, 0] (sub_cons rfl (sub_cons rfl (sub_cons rfl (sub_cons rfl (sub_cons rfl (sub_cons rfl (sub_cons rfl (sub_cons rfl (sub_cons rfl (sub_cons rfl sub_nil)))))))))) (by decide) (pick_cons rfl (pick_cons rfl (pick_cons rfl (pick_cons rfl (pick_cons rfl pick_nil))))) (hN7 q8)
 intro hN2
 refine ax_node (f' := 5) #[true, true, false, true, true, true, true, false, true, false, false, false] (fun (v2 : Addr) => (⟨53, [], [(3, (Vp q3)), (4, (Vp q4)), (5, (Vp q5)), (6, (Vp q6)), (7, (Vp v2)), (11, (Ag [(Vb a1_0), (Sl (Ki .u32) a1_1), (Vi a1_2), (Vb a1_3), (Sl (Ki .u32) a1_4), (Vi a1_5)])), (12, (Ag [(Vb a2_0), (Sl (Ki .u32) a2_1), (Vi a2_2), (Vb a2_3), (Sl (Ki .u32) a2_4), (Vi a2_5)])), (14, (Ag [(Vb a1_0), (Sl (Ki .u32) a1_1), (Vi a1_2), (Vb a1_3), (Sl (Ki .u32) a1_4), (Vi a1_5)])), (15, (Ag [(Vb a2_0), (Sl (Ki .u32) a2_1), (Vi a2_2), (Vb a2_3), (Sl (Ki .u32) a2_4), (Vi a2_5)])), (16, (Ag [(Vb a1_0), (Sl (Ki .u32) a1_1), (Vi a1_2), (Vb a1_3), (Sl (Ki .u32) a1_4), (Vi a1_5)])), (17, (Ag [(Vb a0_0), (Sl (Ki .u32) a0_1), (Vi a0_2), (Vb a0_3), (Sl (Ki .u32) a0_4), (Vi a0_5)]))], [⟨.pointer (some q3), [(Vb a0_0), (Sl (Ki .u32) a0_1), (Vi a0_2), (Vb a0_3), (Sl (Ki .u32) a0_4), (Vi a0_5)], 96, none⟩, ⟨.pointer (some q4), [(Vb a1_0), (Sl (Ki .u32) a1_1), (Vi a1_2), (Vb a1_3), (Sl (Ki .u32) a1_4), (Vi a1_5)], 96, none⟩, ⟨.pointer (some q5), [(Vb a2_0), (Sl (Ki .u32) a2_1), (Vi a2_2), (Vb a2_3), (Sl (Ki .u32) a2_4), (Vi a2_5)], 96, none⟩, ⟨.pointer (some q6), [(Vb false), Vn, (Vi 0), (Vb false), Vn, (Vi 0)], 76, none⟩, ⟨.pointer (some v2), [(Vb false), Vn, (Vi 0)], 74, none⟩]⟩ : St)) ?_ ?_
 ·rintro q901
  refine ax_all (i := 2) (is := [9]) (by kernel_rfl) (all_cons ?_ (all_cons ?_ all_nil))
  ·refine nx_ox (last := #[true, true, true, true, true, true, true, false, true, false, false, false]) rfl (ox_calln' (ent_fn' Try.func107 isn107 rfl rfl) (spec_Square_sim _ _ _ _ _ _ _ _ _ _ _ _ hr13 : Sx.Fn Try.prog 107 [(Ag [(Vb a1_0), (Sl (Ki .u32) a1_1), (Vi a1_2), (Vb a1_3), (Sl (Ki .u32) a1_4), (Vi a1_5)]), (Ag [(Vb a2_0), (Sl (Ki .u32) a2_1), (Vi a2_2), (Vb a2_3), (Sl (Ki .u32) a2_4), (Vi a2_5)])] [] (fun x : Unit => (Ag [(Vb r13.1), (Sl (Ki .u32) r13.2.1), (Vi r13.2.2)])) (fun x => [])) (Hn := fun x : Unit => [⟨.pointer (some q3), [(Vb a0_0), (Sl (Ki .u32) a0_1), (Vi a0_2), (Vb a0_3), (Sl (Ki .u32) a0_4), (Vi a0_5)], 96, none⟩, ⟨.pointer (some q4), [(Vb a1_0), (Sl (Ki .u32) a1_1), (Vi a1_2), (Vb a1_3), (Sl (Ki .u32) a1_4), (Vi a1_5)], 96, none⟩, ⟨.pointer (some q5), [(Vb a2_0), (Sl (Ki .u32) a2_1), (Vi a2_2), (Vb a2_3), (Sl (Ki .u32) a2_4), (Vi a2_5)], 96, none⟩, ⟨.pointer (some q6), [(Vb false), Vn, (Vi 0), (Vb false), Vn, (Vi 0)], 76, none⟩, ⟨.pointer (some q901), [(Vb false), Vn, (Vi 0)], 74, none⟩]) (fun _ => rfl) rfl rfl) rfl bs_nil (wt_none' rfl) rfl fun ⟨⟩ => ?_
   exact tx_pick' [0, 1, 2, 3, 4] (sub_cons rfl (sub_cons rfl (sub_cons rfl (sub_cons rfl (sub_cons rfl (sub_cons rfl (sub_cons rfl (sub_cons rfl (sub_cons rfl (sub_cons rfl sub_nil)))))))))) (by decide) (pick_cons rfl (pick_cons rfl (pick_cons rfl (pick_cons rfl (pick_cons rfl pick_nil))))) (hN6 q901)
  refine nx_ox (last := #[true, true, false, true, true, true, true, false, true, true, false, false]) rfl (ox_alloc' info74 rfl rfl rfl rfl (l := [(Vb false), Vn, (Vi 0)]) rfl) rfl bs_nil (wt_none' rfl) rfl fun q8 => ?_
  exact tx_pick' [1, 2, 3, 4, 5, 0] (sub_cons rfl (sub_cons rfl (sub_cons rfl (sub_cons rfl (sub_cons rfl (sub_cons rfl (sub_cons rfl (sub_cons rfl (sub_cons rfl (sub_cons rfl (sub_cons rfl (sub_cons rfl sub_nil)))))))))))) (by decide) (pick_cons rfl (pick_cons rfl (pick_cons rfl (pick_cons rfl (pick_cons rfl (pick_cons rfl pick_nil)))))) (hN8 (q901, q8))
 intro hN3
 refine ax_node (f' := 5) #[true, true, false, true, true, true, true, false, false, true, false, false] (fun (v3 : Addr) => (⟨53, [], [(3, (Vp q3)), (4, (Vp q4)), (5, (Vp q5)), (6, (Vp q6)), (8, (Vp v3)), (11, (Ag [(Vb a1_0), (Sl (Ki .u32) a1_1), (Vi a1_2), (Vb a1_3), (Sl (Ki .u32) a1_4), (Vi a1_5)])), (12, (Ag [(Vb a2_0), (Sl (Ki .u32) a2_1), (Vi a2_2), (Vb a2_3), (Sl (Ki .u32) a2_4), (Vi a2_5)])), (14, (Ag [(Vb a1_0), (Sl (Ki .u32) a1_1), (Vi a1_2), (Vb a1_3), (Sl (Ki .u32) a1_4), (Vi a1_5)])), (15, (Ag [(Vb a2_0), (Sl (Ki .u32) a2_1), (Vi a2_2), (Vb a2_3), (Sl (Ki .u32) a2_4), (Vi a2_5)])), (16, (Ag [(Vb a1_0), (Sl (Ki .u32) a1_1), (Vi a1_2), (Vb a1_3), (Sl (Ki .u32) a1_4), (Vi a1_5)])), (17, (Ag [(Vb a0_0), (Sl (Ki .u32) a0_1), (Vi a0_2), (Vb a0_3), (Sl (Ki .u32) a0_4), (Vi a0_5)]))], [⟨.pointer (some q3), [(Vb a0_0), (Sl (Ki .u32) a0_1), (Vi a0_2), (Vb a0_3), (Sl (Ki .u32) a0_4), (Vi a0_5)], 96, none⟩, ⟨.pointer (some q4), [(Vb a1_0), (Sl (Ki .u32) a1_1), (Vi a1_2), (Vb a1_3), (Sl (Ki .u32) a1_4), (Vi a1_5)], 96, none⟩, ⟨.pointer (some q5), [(Vb a2_0), (Sl (Ki .u32) a2_1), (Vi a2_2), (Vb a2_3), (Sl (Ki .u32) a2_4), (Vi a2_5)], 96, none⟩, ⟨.pointer (some q6), [(Vb false), Vn, (Vi 0), (Vb false), Vn, (Vi 0)], 76, none⟩, ⟨.pointer (some v3), [(Vb false), Vn, (Vi 0)], 74, none⟩]⟩ : St)) ?_ ?_
 ·rintro q902
  refine ax_all (i := 2) (is := [8]) (by kernel_rfl) (all_cons ?_ (all_cons ?_ all_nil))
  ·refine nx_ox (last := #[true, true, true, true, true, true, true, false, false, true, false, false]) rfl (ox_calln' (ent_fn' Try.func107 isn107 rfl rfl) (spec_Square_sim _ _ _ _ _ _ _ _ _ _ _ _ hr13 : Sx.Fn Try.prog 107 [(Ag [(Vb a1_0), (Sl (Ki .u32) a1_1), (Vi a1_2), (Vb a1_3), (Sl (Ki .u32) a1_4), (Vi a1_5)]), (Ag [(Vb a2_0), (Sl (Ki .u32) a2_1), (Vi a2_2), (Vb a2_3), (Sl (Ki .u32) a2_4), (Vi a2_5)])] [] (fun x : Unit => (Ag [(Vb r13.1), (Sl (Ki .u32) r13.2.1), (Vi r13.2.2)])) (fun x => [])) (Hn := fun x : Unit => [⟨.pointer (some q3), [(Vb a0_0), (Sl (Ki .u32) a0_1), (Vi a0_2), (Vb a0_3), (Sl (Ki .u32) a0_4), (Vi a0_5)], 96, none⟩, ⟨.pointer (some q4), [(Vb a1_0), (Sl (Ki .u32) a1_1), (Vi a1_2), (Vb a1_3), (Sl (Ki .u32) a1_4), (Vi a1_5)], 96, none⟩, ⟨.pointer (some q5), [(Vb a2_0), (Sl (Ki .u32) a2_1), (Vi a2_2), (Vb a2_3), (Sl (Ki .u32) a2_4), (Vi a2_5)], 96, none⟩, ⟨.pointer (some q6), [(Vb false), Vn, (Vi 0), (Vb false), Vn, (Vi 0)], 76, none⟩, ⟨.pointer (some q902), [(Vb false), Vn, (Vi 0)], 74, none⟩]) (fun _ => rfl) rfl rfl) rfl bs_nil (wt_none' rfl) rfl fun ⟨⟩ => ?_
   exact tx_pick' [0, 1, 2, 3, 4] (sub_cons rfl (sub_cons rfl (sub_cons rfl (sub_cons rfl (sub_cons rfl (sub_cons rfl (sub_cons rfl (sub_cons rfl (sub_cons rfl (sub_cons rfl sub_nil)))))))))) (by decide) (pick_cons rfl (pick_cons rfl (pick_cons rfl (pick_cons rfl (pick_cons rfl pick_nil))))) (hN7 q902)
  refine nx_ox (last := #[true, true, false, true, true, true, true, false, true, true, false, false]) rfl (ox_alloc' info74 rfl rfl rfl rfl (l := [(Vb false), Vn, (Vi 0)]) rfl) rfl bs_nil (wt_none' rfl) rfl fun q7 => ?_
  exact tx_pick' [1, 2, 3, 4, 0, 5] (sub_cons rfl (sub_cons rfl (sub_cons rfl (sub_cons rfl (sub_cons rfl (sub_cons rfl (sub_cons rfl (sub_cons rfl (sub_cons rfl (sub_cons rfl (sub_cons rfl (sub_cons rfl sub_nil)))))))))))) (by decide) (pick_cons rfl (pick_cons rfl (pick_cons rfl (pick_cons rfl (pick_cons rfl (pick_cons rfl pick_nil)))))) (hN8 (q7, q902))
 intro hN4
 refine ax_all (i := 2) (is := [8, 9]) (by kernel_rfl) (all_cons ?_ (all_cons ?_ (all_cons ?_ all_nil)))
 ·refine nx_ox (last := #[true, true, true, true, true, true, true, false, false, false, false, false]) rfl (ox_calln' (ent_fn' Try.func107 isn107 rfl rfl) (spec_Square_sim _ _ _ _ _ _ _ _ _ _ _ _ hr13 : Sx.Fn Try.prog 107 [(Ag [(Vb a1_0), (Sl (Ki .u32) a1_1), (Vi a1_2), (Vb a1_3), (Sl (Ki .u32) a1_4), (Vi a1_5)]), (Ag [(Vb a2_0), (Sl (Ki .u32) a2_1), (Vi a2_2), (Vb a2_3), (Sl (Ki .u32) a2_4), (Vi a2_5)])] [] (fun x : Unit => (Ag [(Vb r13.1), (Sl (Ki .u32) r13.2.1), (Vi r13.2.2)])) (fun x => [])) (Hn := fun x : Unit => [⟨.pointer (some q6), [(Vb false), Vn, (Vi 0), (Vb false), Vn, (Vi 0)], 76, none⟩, ⟨.pointer (some q5), [(Vb a2_0), (Sl (Ki .u32) a2_1), (Vi a2_2), (Vb a2_3), (Sl (Ki .u32) a2_4), (Vi a2_5)], 96, none⟩, ⟨.pointer (some q4), [(Vb a1_0), (Sl (Ki .u32) a1_1), (Vi a1_2), (Vb a1_3), (Sl (Ki .u32) a1_4), (Vi a1_5)], 96, none⟩, ⟨.pointer (some q3), [(Vb a0_0), (Sl (Ki .u32) a0_1), (Vi a0_2), (Vb a0_3), (Sl (Ki .u32) a0_4), (Vi a0_5)], 96, none⟩]) (fun _ => rfl) rfl rfl) rfl bs_nil (wt_none' rfl) rfl fun ⟨⟩ => ?_
  exact tx_pick' [3, 2, 1, 0] (sub_cons rfl (sub_cons rfl (sub_cons rfl (sub_cons rfl (sub_cons rfl (sub_cons rfl (sub_cons rfl (sub_cons rfl (sub_cons rfl sub_nil))))))))) (by decide) (pick_cons rfl (pick_cons rfl (pick_cons rfl (pick_cons rfl pick_nil)))) (hN2 ())
 ·refine nx_ox (last := #[true, true, false, true, true, true, true, false, true, false, false, false]) rfl (ox_alloc' info74 rfl rfl rfl rfl (l := [(Vb false), Vn, (Vi 0)]) rfl) rfl bs_nil (wt_none' rfl) rfl fun q7 => ?_
  exact tx_pick' [4, 3, 2, 1, 0] (sub_cons rfl (sub_cons rfl (sub_cons rfl (sub_cons rfl (sub_cons rfl (sub_cons rfl (sub_cons rfl (sub_cons rfl (sub_cons rfl (sub_cons rfl (sub_cons rfl sub_nil))))))))))) (by decide) (pick_cons rfl (pick_cons rfl (pick_cons rfl (pick_cons rfl (pick_cons rfl pick_nil))))) (hN3 q7)
 refine nx_ox (last := #[true, true, false, true, true, true, true, false, false, true, false, false]) rfl (ox_alloc' info74 rfl rfl rfl rfl (l := [(Vb false), Vn, (Vi 0)]) rfl) rfl bs_nil (wt_none' rfl) rfl fun q8 => ?_
 exact tx_pick' [4, 3, 2, 1, 0] (sub_cons rfl (sub_cons rfl (sub_cons rfl (sub_cons rfl (sub_cons rfl (sub_cons rfl (sub_cons rfl (sub_cons rfl (sub_cons rfl (sub_cons rfl (sub_cons rfl sub_nil))))))))))) (by decide) (pick_cons rfl (pick_cons rfl (pick_cons rfl (pick_cons rfl (pick_cons rfl pick_nil))))) (hN4 q8)

def spec_Squares_l1s (a2 : Int) (a0 : List (Bool × (List Int) × Int × Bool × (List Int) × Int)) (a1 : Int) (k : Nat) (rec1 : ((List (Bool × (List Int) × Int × Bool × (List Int) × Int)) × Int) → Option ((List (Bool × (List Int) × Int × Bool × (List Int) × Int)))) (x1 : List (Bool × (List Int) × Int × Bool × (List Int) × Int)) (x2 : Int) : Option ((List (Bool × (List Int) × Int × Bool × (List Int) × Int))) :=
 br (decide (x2 < a2))
  ((idx a0 x2) >>= fun r19 =>
  (idx a0 a1) >>= fun r23 =>
  (idx a0 a2) >>= fun r27 =>
  (spec_SquareTo k r19.1 r19.2.1 r19.2.2.1 r19.2.2.2.1 r19.2.2.2.2.1 r19.2.2.2.2.2 r23.1 r23.2.1 r23.2.2.1 r23.2.2.2.1 r23.2.2.2.2.1 r23.2.2.2.2.2 r27.1 r27.2.1 r27.2.2.1 r27.2.2.2.1 r27.2.2.2.2.1 r27.2.2.2.2.2) >>= fun r29 =>
  (apd 80 x1 ([(r29.1, r29.2.1, r29.2.2.1, r29.2.2.2.1, r29.2.2.2.2.1, r29.2.2.2.2.2)])) >>= fun r31 =>
  rec1 (r31, (iadd .i64 x2 1)))
  (some x1)
def spec_Squares_l1 (a2 : Int) (a0 : List (Bool × (List Int) × Int × Bool × (List Int) × Int)) (a1 : Int) : Nat → ((List (Bool × (List Int) × Int × Bool × (List Int) × Int)) × Int) → Option ((List (Bool × (List Int) × Int × Bool × (List Int) × Int)))
 | 0, _ => none
 | k + 1, v => spec_Squares_l1s a2 a0 a1 k (spec_Squares_l1 a2 a0 a1 k) v.1 v.2
def spec_Squares (k : Nat) (a0 : List (Bool × (List Int) × Int × Bool × (List Int) × Int)) (a1 : Int) (a2 : Int) : Option ((List (Bool × (List Int) × Int × Bool × (List Int) × Int))) :=
 (spec_Squares_l1 a2 a0 a1 k ([], (iadd .i64 a1 1))) >>= fun v2 =>
 some v2

theorem spec_Squares_sim {k : Nat}  (a0 : List (Bool × (List Int) × Int × Bool × (List Int) × Int)) (a1 : Int) (a2 : Int) {out : (List (Bool × (List Int) × Int × Bool × (List Int) × Int))} (hp : spec_Squares k a0 a1 a2 = some out) : Sx.Fn Try.prog 35 [(Sl KT96 a0), (Vi a1), (Vi a2)] [] (fun w : Unit => (Sl KT76 out)) (fun w => []) := by
 unfold spec_Squares at hp
 refine fn_of Try.func35 rfl Try.ntmps35 rfl fun E hM => ?_
 refine cr fun K1 hK1 => ?_
 refine s0 (rd_assign' rfl) ?_
 refine nk hK1 ?_
 refine cr fun K2 hK2 => ?_
 refine s0 (rd_assign' rfl) ?_
 refine nk hK2 ?_
 refine cx_seq' fun K3 hK3 => ?_
 refine cr fun K4 hK4 => ?_
 refine s0 (rd_move' rfl) ?_
 refine s0 (rd_bin' rfl rfl eg_int ru_add) ?_
 refine s0 (rd_assign' rfl) ?_
 refine nk hK4 ?_
 refine cx_block' ?_
 obtain ⟨v2, hy1, hp⟩ := bind_some hp
 refine tx_nilrow' KT76 76 ?_
 refine cx_loopg' (F := spec_Squares_l1 a2 a0 a1) (G := fun k R v => spec_Squares_l1s a2 a0 a1 k R v.1 v.2) (x := ([], (iadd .i64 a1 1))) (gh := (none, 0, 0)) (fun (v1 : (List (Bool × (List Int) × Int × Bool × (List Int) × Int)) × Int) (w1 : Gs) => (⟨33, [], [(0, (Sl KT96 a0)), (1, (Vi a1)), (2, (Vi a2)), (7, (Vl (Vs w1))), (8, (Vi v1.2))], [(Rw KT76 76 (Vs w1) v1.1)]⟩ : St)) (fun (v2 : (List (Bool × (List Int) × Int × Bool × (List Int) × Int))) => Zg E (Exit.exit 0) (fun (w2 : Gs) => (⟨33, [], [(7, (Vl (Vs w2)))], [(Rw KT76 76 (Vs w2) v2)]⟩ : St))) (fun _ => rfl) (fun _ _ => rfl) ?_ hy1 (tx_to' rfl [0] (sub_cons rfl (sub_cons rfl (sub_cons rfl (sub_cons rfl (sub_cons rfl sub_nil))))) (by decide) (pick_cons rfl pick_nil)) ?_
 ·clear hp hy1
  clear v2
  intro k rec1 KY1 ih1
  rintro ⟨x1, x2⟩ g901 y1 hp
  replace hp : spec_Squares_l1s a2 a0 a1 k rec1 x1 x2 = some y1 := hp
  unfold spec_Squares_l1s at hp
  refine cx_seq' fun K8 hK8 => ?_
  refine cr fun K9 hK9 => ?_
  refine s0 (rd_move' rfl) ?_
  refine s0 (rd_move' rfl) ?_
  refine s0 (rd_bin' rfl rfl eg_int ru_lss) ?_
  refine nk hK9 ?_
  refine cx_cond' rfl (fun h3 => ?_) (fun h3 => ?_)
  ·replace hp := (br_t h3).symm.trans hp
   refine cx_skip' ?_
   show TX E K8 _
   refine tx_k' hK8 ?_
   refine cx_seq' fun K10 hK10 => ?_
   refine cx_block' ?_
   refine cx_plan' [] [(15, 1)] [(0, 1), (1, 1), (2, 1), (3, 1), (4, 1), (5, 1), (6, 1), (7, 1), (8, 1), (9, 1), (10, 1), (11, 1), (12, 1), (13, 0), (14, 0), (15, 0), (16, 1)] mixed (by kernel_rfl) ?_
   refine px_rd' rfl (rd_move' rfl) rfl rfl (wt_none' rfl) ?_
   refine px_rd' rfl (rd_move' rfl) rfl rfl (wt_none' rfl) ?_
   refine px_rd' rfl (rd_move' rfl) rfl rfl (wt_none' rfl) ?_
   obtain ⟨r19, hr19, hp⟩ := bind_some hp
   refine px_rd' rfl (rd_at' (K := KT96) rfl rfl hr19 Try.underlying63 info96) rfl rfl (wt_none' rfl) ?_
   refine px_rd' rfl (rd_load_pt_agg' (nn := 6) rfl rfl agg96 (l' := [(Vb r19.1), (Sl (Ki .u32) r19.2.1), (Vi r19.2.2.1), (Vb r19.2.2.2.1), (Sl (Ki .u32) r19.2.2.2.2.1), (Vi r19.2.2.2.2.2)]) rfl) rfl rfl (wt_none' rfl) ?_
   refine px_rd' rfl (rd_move' rfl) rfl rfl (wt_none' rfl) ?_
   refine px_rd' rfl (rd_move' rfl) rfl rfl (wt_none' rfl) ?_
   obtain ⟨r23, hr23, hp⟩ := bind_some hp
   refine px_rd' rfl (rd_at' (K := KT96) rfl rfl hr23 Try.underlying63 info96) rfl rfl (wt_none' rfl) ?_
   refine px_rd' rfl (rd_load_pt_agg' (nn := 6) rfl rfl agg96 (l' := [(Vb r23.1), (Sl (Ki .u32) r23.2.1), (Vi r23.2.2.1), (Vb r23.2.2.2.1), (Sl (Ki .u32) r23.2.2.2.2.1), (Vi r23.2.2.2.2.2)]) rfl) rfl rfl (wt_none' rfl) ?_
   refine px_rd' rfl (rd_move' rfl) rfl rfl (wt_none' rfl) ?_
   refine px_rd' rfl (rd_move' rfl) rfl rfl (wt_none' rfl) ?_
   obtain ⟨r27, hr27, hp⟩ := bind_some hp
   refine px_rd' rfl (rd_at' (K := KT96) rfl rfl hr27 Try.underlying63 info96) rfl rfl (wt_none' rfl) ?_
   refine px_rd' rfl (rd_load_pt_agg' (nn := 6) rfl rfl agg96 (l' := [(Vb r27.1), (Sl (Ki .u32) r27.2.1), (Vi r27.2.2.1), (Vb r27.2.2.2.1), (Sl (Ki .u32) r27.2.2.2.2.1), (Vi r27.2.2.2.2.2)]) rfl) rfl rfl (wt_none' rfl) ?_
   obtain ⟨r29, hr29, hp⟩ := bind_some hp
   refine px_ox' rfl (ox_calln' (ent_fn' Try.func72 isn72 rfl rfl) (spec_SquareTo_sim _ _ _ _ _ _ _ _ _ _ _ _ _ _ _ _ _ _ hr29 : Sx.Fn Try.prog 72 [(Ag [(Vb r19.1), (Sl (Ki .u32) r19.2.1), (Vi r19.2.2.1), (Vb r19.2.2.2.1), (Sl (Ki .u32) r19.2.2.2.2.1), (Vi r19.2.2.2.2.2)]), (Ag [(Vb r23.1), (Sl (Ki .u32) r23.2.1), (Vi r23.2.2.1), (Vb r23.2.2.2.1), (Sl (Ki .u32) r23.2.2.2.2.1), (Vi r23.2.2.2.2.2)]), (Ag [(Vb r27.1), (Sl (Ki .u32) r27.2.1), (Vi r27.2.2.1), (Vb r27.2.2.2.1), (Sl (Ki .u32) r27.2.2.2.2.1), (Vi r27.2.2.2.2.2)])] [] (fun x : Unit => (Ag [(Vb r29.1), (Sl (Ki .u32) r29.2.1), (Vi r29.2.2.1), (Vb r29.2.2.2.1), (Sl (Ki .u32) r29.2.2.2.2.1), (Vi r29.2.2.2.2.2)])) (fun x => [])) (Hn := fun x : Unit => [(Rw KT76 76 (Vs g901) x1)]) (fun _ => rfl) rfl rfl) rfl bs_nil (wt_none' rfl) fun ⟨⟩ => ?_
   refine px_ox' rfl (ox_rowlit' (K := KT76) (xs := [(r29.1, r29.2.1, r29.2.2.1, r29.2.2.2.1, r29.2.2.2.2.1, r29.2.2.2.2.2)]) (qs := [(0, [(Vb r29.1), (Sl (Ki .u32) r29.2.1), (Vi r29.2.2.1), (Vb r29.2.2.2.1), (Sl (Ki .u32) r29.2.2.2.2.1), (Vi r29.2.2.2.2.2)])]) ⟨rfl, ⟨_, rfl, (lv_ag _)⟩, trivial⟩ Try.underlying68 info76 rfl rfl rfl rfl rfl (by kernel_rfl) rfl rfl rfl) rfl bs_nil (wt_none' rfl) fun g30 => ?_
   obtain ⟨r31, hr31, hp⟩ := bind_some hp
   refine px_ox' rfl (ox_append' (K := KT76) (i := 1) (xs := x1) (ys := ([(r29.1, r29.2.1, r29.2.2.1, r29.2.2.2.1, r29.2.2.2.2.1, r29.2.2.2.2.2)])) rfl rfl rfl (sr_row' (j := 0) rfl rfl rfl Try.underlying68) hr31 Try.underlying68 info76 rfl rfl rfl (H' := [(Rw KT76 76 (Vs g30) ([(r29.1, r29.2.1, r29.2.2.1, r29.2.2.2.1, r29.2.2.2.2.1, r29.2.2.2.2.2)]))]) rfl) rfl bs_nil (wt_none' rfl) fun g31 => ?_
   refine px_rd' rfl (rd_assign' rfl) rfl rfl (wt_none' rfl) ?_
   refine px_nil' ?_
   show TX E K10 _
   refine tx_k' hK10 ?_
   refine cx_region' ?_
   refine s0 (rd_move' rfl) ?_
   refine s0 (rd_bin' rfl rfl eg_int ru_add) ?_
   refine s0 (rd_assign' rfl) ?_
   refine sx_nil' ?_
   show TX E (KY1 _) _
   exact tx_pick' [0] (sub_cons rfl (sub_cons rfl (sub_cons rfl (sub_cons rfl (sub_cons rfl sub_nil))))) (by decide) (pick_cons rfl pick_nil) (ih1 (r31, (iadd .i64 x2 1)) g31 _ hp)
  replace hp := (br_f h3).symm.trans hp
  refine cx_exit' ?_
  replace hp := Option.some.inj hp
  subst hp
  show TX E (Zg E (Exit.exit 0) _ (Exit.exit 0)) _
  exact tx_zend' g901 rfl [0] (sub_cons rfl sub_nil) (by decide) (pick_cons rfl pick_nil)
 refine zg_out fun w2 => ?_
 show TX E K3 _
 refine tx_k' hK3 ?_
 refine cr fun K11 hK11 => ?_
 refine s0 (rd_move' rfl) ?_
 refine s0 (rd_assign' rfl) ?_
 refine nk hK11 ?_
 refine cx_retc' ?_
 replace hp := Option.some.inj hp
 subst hp
 refine tx_fz' (frz_row 0 [(7, (Vl (Vs w2)), (Sl KT76 v2)), (32, (Vl (Vs w2)), (Sl KT76 v2)), (6, (Vl (Vs w2)), (Sl KT76 v2))] (K := KT76) (xs := v2) (by decide) rfl ⟨⟨rfl, frz_it⟩, ⟨rfl, frz_it⟩, ⟨rfl, frz_it⟩, trivial⟩ (H' := []) frzH_refl) ?_
 refine tx_pick' (L' := [(6, (Sl KT76 v2))]) (H' := []) [] (sub_cons rfl sub_nil) (by decide) pick_nil ?_
 exact tx_ret1' Try.results35 rfl () (rv_tmp' rfl) (List.Sublist.refl _)

def spec_Whole_top_l1s  (k : Nat) (rec1 : (Int × Int) → Option (Int)) (x1 : Int) (x2 : Int) : Option (Int) :=
 br (decide (x2 < 2147483648))
  ((ishl .u32 x2 1) >>= fun r24 =>
  rec1 ((isub .i64 x1 1), r24))
  (some x1)
def spec_Whole_top_l1  : Nat → (Int × Int) → Option (Int)
 | 0, _ => none
 | k + 1, v => spec_Whole_top_l1s k (spec_Whole_top_l1 k) v.1 v.2
def spec_Whole_top (k : Nat) (a0_0 : Bool) (a0_1 : List Int) : Option (Int) :=
 br (decide ((a0_1.length : Int) = 0))
  (some 0)
  ((idx a0_1 (isub .i64 (a0_1.length : Int) 1)) >>= fun r19 =>
  (spec_Whole_top_l1 k ((imul .i64 32 (a0_1.length : Int)), r19)) >>= fun v2 =>
  some v2)

theorem spec_Whole_top_sim {k : Nat}  (a0_0 : Bool) (a0_1 : List Int) {out : Int} (hp : spec_Whole_top k a0_0 a0_1 = some out) : Sx.Fn Try.prog 111 [(Ag [(Vb a0_0), (Sl (Ki .u32) a0_1)])] [] (fun w : Unit => (Vi out)) (fun w => []) := by
 unfold spec_Whole_top at hp
 refine fn_of Try.func111 rfl Try.ntmps111 rfl fun E hM => ?_
 refine cr fun K1 hK1 => ?_
 refine sx_ox' (ox_box' rfl (lv_ag _) rfl rfl) (wt_none' rfl) fun q1 => ?_
 refine s0 (rd_assign' rfl) ?_
 refine nk hK1 ?_
 refine cx_seq' fun K2 hK2 => ?_
 refine cr fun K3 hK3 => ?_
 refine s0 (rd_field' (off := 1) rfl Try.underlying72 rfl info70 rfl) ?_
 refine s0 (rd_load' (i := 0) (o := 1) rfl ⟨rfl, rfl, rfl, rfl⟩ rfl flat70) ?_
 refine s0 (rd_len' rfl Try.underlying70) ?_
 refine s0 (rd_bin' rfl rfl eg_int ru_eql) ?_
 refine nk hK3 ?_
 refine cx_cond' rfl (fun h1 => ?_) (fun h1 => ?_)
 ·replace hp := (br_t h1).symm.trans hp
  refine cr fun K4 hK4 => ?_
  refine s0 (rd_assign' rfl) ?_
  refine nk hK4 ?_
  refine cx_retc' ?_
  replace hp := Option.some.inj hp
  subst hp
  refine tx_pick' (L' := [(2, (Vi 0))]) (H' := []) [] (sub_cons rfl sub_nil) (by decide) pick_nil ?_
  exact tx_ret1' Try.results111 rfl () (rv_tmp' rfl) (List.Sublist.refl _)
 replace hp := (br_f h1).symm.trans hp
 refine cx_skip' ?_
 show TX E K2 _
 refine tx_k' hK2 ?_
 refine cr fun K5 hK5 => ?_
 refine s0 (rd_field' (off := 1) rfl Try.underlying72 rfl info70 rfl) ?_
 refine s0 (rd_load' (i := 0) (o := 1) rfl ⟨rfl, rfl, rfl, rfl⟩ rfl flat70) ?_
 refine s0 (rd_len' rfl Try.underlying70) ?_
 refine s0 (rd_bin' rfl rfl eg_int ru_mul) ?_
 refine s0 (rd_assign' rfl) ?_
 refine nk hK5 ?_
 refine cx_seq' fun K6 hK6 => ?_
 refine cr fun K7 hK7 => ?_
 refine s0 (rd_field' (off := 1) rfl Try.underlying72 rfl info70 rfl) ?_
 refine s0 (rd_load' (i := 0) (o := 1) rfl ⟨rfl, rfl, rfl, rfl⟩ rfl flat70) ?_
 refine s0 (rd_field' (off := 1) rfl Try.underlying72 rfl info70 rfl) ?_
 refine s0 (rd_load' (i := 0) (o := 1) rfl ⟨rfl, rfl, rfl, rfl⟩ rfl flat70) ?_
 refine s0 (rd_len' rfl Try.underlying70) ?_
 refine s0 (rd_bin' rfl rfl eg_int ru_sub) ?_
 obtain ⟨r19, hr19, hp⟩ := bind_some hp
 refine s0 (rd_at' (K := (Ki .u32)) rfl rfl hr19 Try.underlying70 info183) ?_
 refine s0 (rd_load_pt' rfl rfl flat183) ?_
 refine s0 (rd_assign' rfl) ?_
 refine nk hK7 ?_
 refine cx_block' ?_
 obtain ⟨v2, hy1, hp⟩ := bind_some hp
 refine cx_loopg' (F := spec_Whole_top_l1) (G := fun k R v => spec_Whole_top_l1s k R v.1 v.2) (x := ((imul .i64 32 (a0_1.length : Int)), r19)) (gh := ()) (fun (v1 : Int × Int) (w1 : Unit) => (⟨28, [], [(3, (Vi v1.1)), (4, (Vl (.int .u32 v1.2)))], []⟩ : St)) (fun (v2 : Int) => Zg E (Exit.exit 0) (fun (w2 : Unit) => (⟨28, [], [(3, (Vi v2))], []⟩ : St))) (fun _ => rfl) (fun _ _ => rfl) ?_ hy1 (tx_to' rfl [] (sub_cons rfl (sub_cons rfl sub_nil)) (by decide) pick_nil) ?_
 ·clear hp hy1
  clear v2
  intro k rec1 KY1 ih1
  rintro ⟨x1, x2⟩ ⟨⟩ y1 hp
  replace hp : spec_Whole_top_l1s k rec1 x1 x2 = some y1 := hp
  unfold spec_Whole_top_l1s at hp
  refine cx_seq' fun K11 hK11 => ?_
  refine cr fun K12 hK12 => ?_
  refine s0 (rd_move' rfl) ?_
  refine s0 (rd_bin' rfl rfl eg_int ru_lss) ?_
  refine nk hK12 ?_
  refine cx_cond' rfl (fun h4 => ?_) (fun h4 => ?_)
  ·replace hp := (br_t h4).symm.trans hp
   refine cx_skip' ?_
   show TX E K11 _
   refine tx_k' hK11 ?_
   refine cx_seq' fun K13 hK13 => ?_
   refine cx_block' ?_
   refine cx_region' ?_
   refine s0 (rd_move' rfl) ?_
   refine s0 (rd_bin' rfl rfl eg_int ru_sub) ?_
   refine s0 (rd_assign' rfl) ?_
   refine nk hK13 ?_
   refine cx_region' ?_
   refine s0 (rd_move' rfl) ?_
   obtain ⟨r24, hr24, hp⟩ := bind_some hp
   refine s0 (rd_bin' rfl rfl eg_int (ru_shl hr24)) ?_
   refine s0 (rd_assign' rfl) ?_
   refine sx_nil' ?_
   show TX E (KY1 _) _
   exact tx_pick' [] (sub_cons rfl (sub_cons rfl sub_nil)) (by decide) pick_nil (ih1 ((isub .i64 x1 1), r24) () _ hp)
  replace hp := (br_f h4).symm.trans hp
  refine cx_exit' ?_
  replace hp := Option.some.inj hp
  subst hp
  show TX E (Zg E (Exit.exit 0) _ (Exit.exit 0)) _
  exact tx_zend' () rfl [] (sub_cons rfl sub_nil) (by decide) pick_nil
 refine zg_out fun w2 => ?_
 show TX E K6 _
 refine tx_k' hK6 ?_
 refine cr fun K14 hK14 => ?_
 refine s0 (rd_move' rfl) ?_
 refine s0 (rd_assign' rfl) ?_
 refine nk hK14 ?_
 refine cx_retc' ?_
 replace hp := Option.some.inj hp
 subst hp
 refine tx_pick' (L' := [(2, (Vi v2))]) (H' := []) [] (sub_cons rfl sub_nil) (by decide) pick_nil ?_
 exact tx_ret1' Try.results111 rfl () (rv_tmp' rfl) (List.Sublist.refl _)

def spec_Whole_bit_j2 (k : Nat) (x2 : Bool) : Option (Bool) :=
 some x2
def spec_Whole_bit_j1 (k : Nat) (a1 : Int) (a0_1 : List Int) (x1 : Bool) : Option (Bool) :=
 br x1
  ((iquo .i64 a1 32) >>= fun r19 =>
  (idx a0_1 r19) >>= fun r20 =>
  (irem a1 32) >>= fun r23 =>
  (ishr .u32 r20 r23) >>= fun r24 =>
  spec_Whole_bit_j2 k (decide ((iand .u32 r24 1) = 1)))
  (spec_Whole_bit_j2 k false)
def spec_Whole_bit (k : Nat) (a0_0 : Bool) (a0_1 : List Int) (a1 : Int) : Option (Bool) :=
 br (decide (0 ≤ a1))
  ((iquo .i64 a1 32) >>= fun r9 =>
  spec_Whole_bit_j1 k a1 a0_1 (decide (r9 < (a0_1.length : Int))))
  (spec_Whole_bit_j1 k a1 a0_1 false)

theorem spec_Whole_bit_sim {k : Nat}  (a0_0 : Bool) (a0_1 : List Int) (a1 : Int) {out : Bool} (hp : spec_Whole_bit k a0_0 a0_1 a1 = some out) : Sx.Fn Try.prog 112 [(Ag [(Vb a0_0), (Sl (Ki .u32) a0_1)]), (Vi a1)] [] (fun w : Unit => (Vb out)) (fun w => []) := by
 unfold spec_Whole_bit at hp
 refine fn_of Try.func112 rfl Try.ntmps112 rfl fun E hM => ?_
 refine cr fun K1 hK1 => ?_
 refine sx_ox' (ox_box' rfl (lv_ag _) rfl rfl) (wt_none' rfl) fun q2 => ?_
 refine s0 (rd_assign' rfl) ?_
 refine nk hK1 ?_
 refine cr fun K2 hK2 => ?_
 refine s0 (rd_move' rfl) ?_
 refine s0 (rd_bin' rfl rfl eg_int ru_geq) ?_
 refine s0 (rd_move' rfl) ?_
 refine sx_cutn' 7 (fun (v1 : Bool) => (⟨28, [], [(1, (Vi a1)), (2, (Vp q2)), (14, (Vb v1))], [⟨.pointer (some q2), [(Vb a0_0), (Sl (Ki .u32) a0_1)], 72, none⟩]⟩ : St)) (fun (v1 : Bool) => spec_Whole_bit_j1 k a1 a0_1 v1 = some out) ?_ ?_
 ·rintro x1 hp
  replace hp : spec_Whole_bit_j1 k a1 a0_1 x1 = some out := hp
  unfold spec_Whole_bit_j1 at hp
  refine s0 (rd_move' rfl) ?_
  refine sx_cutn' 12 (fun (v2 : Bool) => (⟨28, [], [(27, (Vb v2))], []⟩ : St)) (fun (v2 : Bool) => spec_Whole_bit_j2 k v2 = some out) ?_ ?_
  ·rintro x2 hp
   replace hp : spec_Whole_bit_j2 k x2 = some out := hp
   unfold spec_Whole_bit_j2 at hp
   refine s0 (rd_assign' rfl) ?_
   refine nk hK2 ?_
   refine cx_retc' ?_
   replace hp := Option.some.inj hp
   subst hp
   refine tx_pick' (L' := [(4, (Vb x2))]) (H' := []) [] (sub_cons rfl sub_nil) (by decide) pick_nil ?_
   exact tx_ret1' Try.results112 rfl () (rv_tmp' rfl) (List.Sublist.refl _)
  intro K4 hK4
  rcases br_cases hp with ⟨h2, hp⟩ | ⟨h2, hp⟩
  ·refine sx_rd' (rd_field' (off := 1) rfl Try.underlying72 rfl info70 rfl) rfl rfl (wt_is' (wt_guard' rfl rfl rfl) (beq_tt h2)) ?_
   refine sx_rd' (rd_load' (i := 0) (o := 1) rfl ⟨rfl, rfl, rfl, rfl⟩ rfl flat70) rfl rfl (wt_is' (wt_guard' rfl rfl rfl) (beq_tt h2)) ?_
   refine sx_rd' (rd_move' rfl) rfl rfl (wt_is' (wt_guard' rfl rfl rfl) (beq_tt h2)) ?_
   obtain ⟨r19, hr19, hp⟩ := bind_some hp
   refine sx_rd' (rd_bin' rfl rfl eg_int (ru_quo hr19)) rfl rfl (wt_is' (wt_guard' rfl rfl rfl) (beq_tt h2)) ?_
   obtain ⟨r20, hr20, hp⟩ := bind_some hp
   refine sx_rd' (rd_at' (K := (Ki .u32)) rfl rfl hr20 Try.underlying70 info183) rfl rfl (wt_is' (wt_guard' rfl rfl rfl) (beq_tt h2)) ?_
   refine sx_rd' (rd_load_pt' rfl rfl flat183) rfl rfl (wt_is' (wt_guard' rfl rfl rfl) (beq_tt h2)) ?_
   refine sx_rd' (rd_move' rfl) rfl rfl (wt_is' (wt_guard' rfl rfl rfl) (beq_tt h2)) ?_
   obtain ⟨r23, hr23, hp⟩ := bind_some hp
   refine sx_rd' (rd_bin' rfl rfl eg_int (ru_rem hr23)) rfl rfl (wt_is' (wt_guard' rfl rfl rfl) (beq_tt h2)) ?_
   obtain ⟨r24, hr24, hp⟩ := bind_some hp
   refine sx_rd' (rd_bin' rfl rfl eg_int (ru_shr hr24)) rfl rfl (wt_is' (wt_guard' rfl rfl rfl) (beq_tt h2)) ?_
   refine sx_rd' (rd_bin' rfl rfl eg_int ru_and) rfl rfl (wt_is' (wt_guard' rfl rfl rfl) (beq_tt h2)) ?_
   refine sx_rd' (rd_bin' rfl rfl eg_int ru_eql) rfl rfl (wt_is' (wt_guard' rfl rfl rfl) (beq_tt h2)) ?_
   refine s0 (rd_pick_true' rfl h2 rfl) ?_
   refine sx_nil' ?_
   show TX E K4 _
   exact tx_pick' [] (sub_cons rfl sub_nil) (by decide) pick_nil (hK4 (decide ((iand .u32 r24 1) = 1)) hp)
  refine sx_skip' rfl rfl (wt_is' (wt_guard' rfl rfl rfl) (beq_ft h2)) ?_
  refine sx_skip' rfl rfl (wt_is' (wt_guard' rfl rfl rfl) (beq_ft h2)) ?_
  refine sx_skip' rfl rfl (wt_is' (wt_guard' rfl rfl rfl) (beq_ft h2)) ?_
  refine sx_skip' rfl rfl (wt_is' (wt_guard' rfl rfl rfl) (beq_ft h2)) ?_
  refine sx_skip' rfl rfl (wt_is' (wt_guard' rfl rfl rfl) (beq_ft h2)) ?_
  refine sx_skip' rfl rfl (wt_is' (wt_guard' rfl rfl rfl) (beq_ft h2)) ?_
  refine sx_skip' rfl rfl (wt_is' (wt_guard' rfl rfl rfl) (beq_ft h2)) ?_
  refine sx_skip' rfl rfl (wt_is' (wt_guard' rfl rfl rfl) (beq_ft h2)) ?_
  refine sx_skip' rfl rfl (wt_is' (wt_guard' rfl rfl rfl) (beq_ft h2)) ?_
  refine sx_skip' rfl rfl (wt_is' (wt_guard' rfl rfl rfl) (beq_ft h2)) ?_
  refine sx_skip' rfl rfl (wt_is' (wt_guard' rfl rfl rfl) (beq_ft h2)) ?_
  refine s0 (rd_pick_false' rfl h2 rfl) ?_
  refine sx_nil' ?_
  show TX E K4 _
  exact tx_pick' [] (sub_cons rfl sub_nil) (by decide) pick_nil (hK4 false hp)
 intro K3 hK3
 rcases br_cases hp with ⟨h1, hp⟩ | ⟨h1, hp⟩
 ·refine sx_rd' (rd_move' rfl) rfl rfl (wt_is' (wt_guard' rfl rfl rfl) (beq_tt h1)) ?_
  obtain ⟨r9, hr9, hp⟩ := bind_some hp
  refine sx_rd' (rd_bin' rfl rfl eg_int (ru_quo hr9)) rfl rfl (wt_is' (wt_guard' rfl rfl rfl) (beq_tt h1)) ?_
  refine sx_rd' (rd_field' (off := 1) rfl Try.underlying72 rfl info70 rfl) rfl rfl (wt_is' (wt_guard' rfl rfl rfl) (beq_tt h1)) ?_
  refine sx_rd' (rd_load' (i := 0) (o := 1) rfl ⟨rfl, rfl, rfl, rfl⟩ rfl flat70) rfl rfl (wt_is' (wt_guard' rfl rfl rfl) (beq_tt h1)) ?_
  refine sx_rd' (rd_len' rfl Try.underlying70) rfl rfl (wt_is' (wt_guard' rfl rfl rfl) (beq_tt h1)) ?_
  refine sx_rd' (rd_bin' rfl rfl eg_int ru_lss) rfl rfl (wt_is' (wt_guard' rfl rfl rfl) (beq_tt h1)) ?_
  refine s0 (rd_pick_true' rfl h1 rfl) ?_
  refine sx_nil' ?_
  show TX E K3 _
  exact tx_pick' [0] (sub_cons rfl (sub_cons rfl (sub_cons rfl sub_nil))) (by decide) (pick_cons rfl pick_nil) (hK3 (decide (r9 < (a0_1.length : Int))) hp)
 refine sx_skip' rfl rfl (wt_is' (wt_guard' rfl rfl rfl) (beq_ft h1)) ?_
 refine sx_skip' rfl rfl (wt_is' (wt_guard' rfl rfl rfl) (beq_ft h1)) ?_
 refine sx_skip' rfl rfl (wt_is' (wt_guard' rfl rfl rfl) (beq_ft h1)) ?_
 refine sx_skip' rfl rfl (wt_is' (wt_guard' rfl rfl rfl) (beq_ft h1)) ?_
 refine sx_skip' rfl rfl (wt_is' (wt_guard' rfl rfl rfl) (beq_ft h1)) ?_
 refine sx_skip' rfl rfl (wt_is' (wt_guard' rfl rfl rfl) (beq_ft h1)) ?_
 refine s0 (rd_pick_false' rfl h1 rfl) ?_
 refine sx_nil' ?_
 show TX E K3 _
 exact tx_pick' [0] (sub_cons rfl (sub_cons rfl (sub_cons rfl sub_nil))) (by decide) (pick_cons rfl pick_nil) (hK3 false hp)

def spec_Whole_low_l1s (a1 : Int) (a0_0 : Bool) (a0_1 : List Int) (k : Nat) (rec1 : Int → Option (Unit ⊕ Unit)) (x1 : Int) : Option (Unit ⊕ Unit) :=
 br (decide (x1 < a1))
  ((spec_Whole_bit k a0_0 a0_1 x1) >>= fun r13 =>
  br r13
   (some (.inl ()))
   (rec1 (iadd .i64 x1 1)))
  (some (.inr ()))
def spec_Whole_low_l1 (a1 : Int) (a0_0 : Bool) (a0_1 : List Int) : Nat → Int → Option (Unit ⊕ Unit)
 | 0, _ => none
 | k + 1, v => spec_Whole_low_l1s a1 a0_0 a0_1 k (spec_Whole_low_l1 a1 a0_0 a0_1 k) v
def spec_Whole_low (k : Nat) (a0_0 : Bool) (a0_1 : List Int) (a1 : Int) : Option (Bool) :=
 (spec_Whole_low_l1 a1 a0_0 a0_1 k 0) >>= fun y1 => match y1 with
  | (.inl v2) =>
   (some true)
  | (.inr v3) =>
   (some false)

theorem spec_Whole_low_sim {k : Nat}  (a0_0 : Bool) (a0_1 : List Int) (a1 : Int) {out : Bool} (hp : spec_Whole_low k a0_0 a0_1 a1 = some out) : Sx.Fn Try.prog 113 [(Ag [(Vb a0_0), (Sl (Ki .u32) a0_1)]), (Vi a1)] [] (fun w : Unit => (Vb out)) (fun w => []) := by
 unfold spec_Whole_low at hp
 refine fn_of Try.func113 rfl Try.ntmps113 rfl fun E hM => ?_
 refine cr fun K1 hK1 => ?_
 refine sx_ox' (ox_box' rfl (lv_ag _) rfl rfl) (wt_none' rfl) fun q2 => ?_
 refine s0 (rd_assign' rfl) ?_
 refine nk hK1 ?_
 refine cx_seq' fun K2 hK2 => ?_
 refine cr fun K3 hK3 => ?_
 refine s0 (rd_assign' rfl) ?_
 refine nk hK3 ?_
 refine cx_block' ?_
 obtain ⟨y1, hy1, hp⟩ := bind_some hp
 refine cx_loopg' (F := spec_Whole_low_l1 a1 a0_0 a0_1) (G := fun k R v => spec_Whole_low_l1s a1 a0_0 a0_1 k R v) (x := 0) (gh := ()) (fun (v1 : Int) (w1 : Unit) => (⟨14, [], [(1, (Vi a1)), (2, (Vp q2)), (5, (Vi v1))], [⟨.pointer (some q2), [(Vb a0_0), (Sl (Ki .u32) a0_1)], 72, none⟩]⟩ : St)) (fun (y : Unit ⊕ Unit) => match y with | (.inl v2) => Zg E Exit.ret (fun (w2 : Unit) => (⟨14, [], [(4, (Vb true))], []⟩ : St)) | (.inr v3) => Zg E (Exit.exit 0) (fun (w3 : Unit) => (⟨14, [], [], []⟩ : St))) (fun _ => rfl) (fun _ _ => rfl) ?_ hy1 (tx_to' rfl [0] (sub_cons rfl (sub_cons rfl (sub_cons rfl sub_nil))) (by decide) (pick_cons rfl pick_nil)) ?_
 ·clear hp hy1
  clear y1
  intro k rec1 KY1 ih1
  rintro x1 ⟨⟩ y1 hp
  replace hp : spec_Whole_low_l1s a1 a0_0 a0_1 k rec1 x1 = some y1 := hp
  unfold spec_Whole_low_l1s at hp
  refine cx_seq' fun K9 hK9 => ?_
  refine cr fun K10 hK10 => ?_
  refine s0 (rd_move' rfl) ?_
  refine s0 (rd_move' rfl) ?_
  refine s0 (rd_bin' rfl rfl eg_int ru_lss) ?_
  refine nk hK10 ?_
  refine cx_cond' rfl (fun h4 => ?_) (fun h4 => ?_)
  ·replace hp := (br_t h4).symm.trans hp
   refine cx_skip' ?_
   show TX E K9 _
   refine tx_k' hK9 ?_
   refine cx_seq' fun K11 hK11 => ?_
   refine cx_block' ?_
   refine cr fun K12 hK12 => ?_
   refine s0 (rd_load_agg' (i := 0) (o := 0) (nn := 2) rfl ⟨rfl, rfl, rfl, rfl⟩ rfl agg72 (l' := [(Vb a0_0), (Sl (Ki .u32) a0_1)]) rfl) ?_
   refine s0 (rd_move' rfl) ?_
   obtain ⟨r13, hr13, hp⟩ := bind_some hp
   refine sx_ox' (ox_calln' (ent_fn' Try.func112 isn112 rfl rfl) (spec_Whole_bit_sim _ _ _ hr13 : Sx.Fn Try.prog 112 [(Ag [(Vb a0_0), (Sl (Ki .u32) a0_1)]), (Vi x1)] [] (fun x : Unit => (Vb r13)) (fun x => [])) (Hn := fun x : Unit => [⟨.pointer (some q2), [(Vb a0_0), (Sl (Ki .u32) a0_1)], 72, none⟩]) (fun _ => rfl) rfl rfl) (wt_none' rfl) fun ⟨⟩ => ?_
   refine nk hK12 ?_
   refine cx_cond' rfl (fun h5 => ?_) (fun h5 => ?_)
   ·replace hp := (br_t h5).symm.trans hp
    refine cr fun K13 hK13 => ?_
    refine s0 (rd_assign' rfl) ?_
    refine nk hK13 ?_
    refine cx_retc' ?_
    replace hp := Option.some.inj hp
    subst hp
    show TX E (Zg E Exit.ret _ Exit.ret) _
    exact tx_zend' () rfl [] (sub_cons rfl sub_nil) (by decide) pick_nil
   replace hp := (br_f h5).symm.trans hp
   refine cx_skip' ?_
   show TX E K11 _
   refine tx_k' hK11 ?_
   refine cx_region' ?_
   refine s0 (rd_move' rfl) ?_
   refine s0 (rd_bin' rfl rfl eg_int ru_add) ?_
   refine s0 (rd_assign' rfl) ?_
   refine sx_nil' ?_
   show TX E (KY1 _) _
   exact tx_pick' [0] (sub_cons rfl (sub_cons rfl (sub_cons rfl sub_nil))) (by decide) (pick_cons rfl pick_nil) (ih1 (iadd .i64 x1 1) () _ hp)
  replace hp := (br_f h4).symm.trans hp
  refine cx_exit' ?_
  replace hp := Option.some.inj hp
  subst hp
  show TX E (Zg E (Exit.exit 0) _ (Exit.exit 0)) _
  exact tx_zend' () rfl [] sub_nil (by decide) pick_nil
 rcases y1 with v2 | v3
 ·dsimp only at hp
  refine zg_out fun w2 => ?_
  replace hp := Option.some.inj hp
  subst hp
  refine tx_pick' (L' := [(4, (Vb true))]) (H' := []) [] (sub_cons rfl sub_nil) (by decide) pick_nil ?_
  exact tx_ret1' Try.results113 rfl () (rv_tmp' rfl) (List.Sublist.refl _)
 dsimp only at hp
 refine zg_out fun w3 => ?_
 show TX E K2 _
 refine tx_k' hK2 ?_
 refine cr fun K14 hK14 => ?_
 refine s0 (rd_assign' rfl) ?_
 refine nk hK14 ?_
 refine cx_retc' ?_
 replace hp := Option.some.inj hp
 subst hp
 refine tx_pick' (L' := [(4, (Vb false))]) (H' := []) [] (sub_cons rfl sub_nil) (by decide) pick_nil ?_
 exact tx_ret1' Try.results113 rfl () (rv_tmp' rfl) (List.Sublist.refl _)

def math_IsInf_j1 (k : Nat) (x1 : Nat) : Option (Bool) :=
 some (fgt x1 9218868437227405311)
def math_IsInf (k : Nat) (a0 : Nat) (a1 : Int) : Option (Bool) :=
 br (decide (a1 = 0))
  ((math_Abs k a0) >>= fun r8 =>
  math_IsInf_j1 k r8)
  (br (decide (a1 < 0))
   (math_IsInf_j1 k (fneg a0))
   (math_IsInf_j1 k a0))

theorem math_IsInf_sim {k : Nat}  (a0 : Nat) (a1 : Int) {out : Bool} (hp : math_IsInf k a0 a1 = some out) : Sx.Fn Try.prog 149 [(Vg a0), (Vi a1)] [] (fun w : Unit => (Vb out)) (fun w => []) := by
 unfold math_IsInf at hp
 refine fn_of Try.func149 rfl Try.ntmps149 rfl fun E hM => ?_
 refine cr fun K1 hK1 => ?_
 refine s0 (rd_assign' rfl) ?_
 refine nk hK1 ?_
 refine cx_join' (fun (v1 : Nat) => (⟨15, [], [(0, (Vg v1))], []⟩ : St)) (fun (v1 : Nat) => math_IsInf_j1 k v1 = some out) ?_ ?_
 ·rintro x1 hp
  replace hp : math_IsInf_j1 k x1 = some out := hp
  unfold math_IsInf_j1 at hp
  refine cr fun K5 hK5 => ?_
  refine s0 (rd_move' rfl) ?_
  refine s0 (rd_bin' rfl rfl eg_flt ru_fgt) ?_
  refine s0 (rd_assign' rfl) ?_
  refine nk hK5 ?_
  refine cx_retc' ?_
  replace hp := Option.some.inj hp
  subst hp
  refine tx_pick' (L' := [(4, (Vb (fgt x1 9218868437227405311)))]) (H' := []) [] (sub_cons rfl sub_nil) (by decide) pick_nil ?_
  exact tx_ret1' Try.results149 rfl () (rv_tmp' rfl) (List.Sublist.refl _)
 intro K2 hK2
 refine cr fun K3 hK3 => ?_
 refine s0 (rd_move' rfl) ?_
 refine s0 (rd_bin' rfl rfl eg_int ru_eql) ?_
 refine nk hK3 ?_
 refine cx_cond' rfl (fun h1 => ?_) (fun h1 => ?_)
 ·replace hp := (br_t h1).symm.trans hp
  refine cx_region' ?_
  refine s0 (rd_move' rfl) ?_
  obtain ⟨r8, hr8, hp⟩ := bind_some hp
  refine sx_ox' (ox_calln' (ent_fn' Try.func46 isn46 rfl rfl) (math_Abs_sim _ hr8 : Sx.Fn Try.prog 46 [(Vg a0)] [] (fun x : Unit => (Vg r8)) (fun x => [])) (Hn := fun x : Unit => []) (fun _ => rfl) rfl rfl) (wt_none' rfl) fun ⟨⟩ => ?_
  refine s0 (rd_assign' rfl) ?_
  refine sx_nil' ?_
  show TX E K2 _
  exact tx_pick' [] (sub_cons rfl sub_nil) (by decide) pick_nil (hK2 r8 hp)
 replace hp := (br_f h1).symm.trans hp
 refine cr fun K4 hK4 => ?_
 refine s0 (rd_move' rfl) ?_
 refine s0 (rd_bin' rfl rfl eg_int ru_lss) ?_
 refine nk hK4 ?_
 refine cx_cond' rfl (fun h2 => ?_) (fun h2 => ?_)
 ·replace hp := (br_t h2).symm.trans hp
  refine cx_region' ?_
  refine s0 (rd_move' rfl) ?_
  refine s0 (rd_un' rfl ru_fneg) ?_
  refine s0 (rd_assign' rfl) ?_
  refine sx_nil' ?_
  show TX E K2 _
  exact tx_pick' [] (sub_cons rfl sub_nil) (by decide) pick_nil (hK2 (fneg a0) hp)
 replace hp := (br_f h2).symm.trans hp
 refine cx_skip' ?_
 show TX E K2 _
 exact tx_pick' [] (sub_cons rfl sub_nil) (by decide) pick_nil (hK2 a0 hp)

def math_IsNaN (k : Nat) (a0 : Nat) : Option (Bool) :=
 some (fne a0 a0)

theorem math_IsNaN_sim {k : Nat}  (a0 : Nat) {out : Bool} (hp : math_IsNaN k a0 = some out) : Sx.Fn Try.prog 118 [(Vg a0)] [] (fun w : Unit => (Vb out)) (fun w => []) := by
 unfold math_IsNaN at hp
 refine fn_of Try.func118 rfl Try.ntmps118 rfl fun E hM => ?_
 refine cr fun K1 hK1 => ?_
 refine s0 (rd_assign' rfl) ?_
 refine nk hK1 ?_
 refine cr fun K2 hK2 => ?_
 refine s0 (rd_move' rfl) ?_
 refine s0 (rd_move' rfl) ?_
 refine s0 (rd_bin' rfl rfl eg_flt ru_fne) ?_
 refine s0 (rd_assign' rfl) ?_
 refine nk hK2 ?_
 refine cx_retc' ?_
 replace hp := Option.some.inj hp
 subst hp
 refine tx_pick' (L' := [(2, (Vb (fne a0 a0)))]) (H' := []) [] (sub_cons rfl sub_nil) (by decide) pick_nil ?_
 exact tx_ret1' Try.results118 rfl () (rv_tmp' rfl) (List.Sublist.refl _)

def math_normalize (k : Nat) (a0 : Nat) : Option (Nat × Int) :=
 (math_Abs k a0) >>= fun r5 =>
 br (flt r5 4503599627370496)
  ((some (gmul a0 4841369599423283200)) >>= fun r8 =>
  some (r8, (-52)))
  (some (a0, 0))

theorem math_normalize_sim {k : Nat}  (a0 : Nat) {out : Nat × Int} (hp : math_normalize k a0 = some out) : Sx.Fn Try.prog 156 [(Vg a0)] [] (fun w : Unit => (Tu [(Fl out.1), (Vi out.2)])) (fun w => []) := by
 unfold math_normalize at hp
 refine fn_of Try.func156 rfl Try.ntmps156 rfl fun E hM => ?_
 refine cr fun K1 hK1 => ?_
 refine s0 (rd_assign' rfl) ?_
 refine s0 (rd_assign' rfl) ?_
 refine nk hK1 ?_
 refine cx_seq' fun K2 hK2 => ?_
 refine cr fun K3 hK3 => ?_
 refine s0 (rd_move' rfl) ?_
 obtain ⟨r5, hr5, hp⟩ := bind_some hp
 refine sx_ox' (ox_calln' (ent_fn' Try.func46 isn46 rfl rfl) (math_Abs_sim _ hr5 : Sx.Fn Try.prog 46 [(Vg a0)] [] (fun x : Unit => (Vg r5)) (fun x => [])) (Hn := fun x : Unit => []) (fun _ => rfl) rfl rfl) (wt_none' rfl) fun ⟨⟩ => ?_
 refine s0 (rd_bin' rfl rfl eg_flt ru_flt) ?_
 refine nk hK3 ?_
 refine cx_cond' rfl (fun h1 => ?_) (fun h1 => ?_)
 ·replace hp := (br_t h1).symm.trans hp
  refine cr fun K4 hK4 => ?_
  refine s0 (rd_move' rfl) ?_
  obtain ⟨r8, hr8, hp⟩ := bind_some hp
  refine sx_ox' (ox_fop' (.inr (.inr (.inl rfl))) (fl_v rfl) (fl_v rfl) (Option.some.inj hr8) rfl rfl) (wt_none' rfl) fun _ => ?_
  refine s0 (rd_assign' rfl) ?_
  refine s0 (rd_assign' rfl) ?_
  refine nk hK4 ?_
  refine cx_retc' ?_
  replace hp := Option.some.inj hp
  subst hp
  refine tx_pick' (L' := [(2, (Fl r8)), (3, (Vi (-52)))]) (H' := []) [] (sub_cons rfl (sub_cons rfl sub_nil)) (by decide) pick_nil ?_
  exact tx_ret2' Try.results156 rfl () (rv_tmp' rfl) (rv_tmp' rfl) rfl (List.Sublist.refl _)
 replace hp := (br_f h1).symm.trans hp
 refine cx_skip' ?_
 show TX E K2 _
 refine tx_k' hK2 ?_
 refine cr fun K5 hK5 => ?_
 refine s0 (rd_move' rfl) ?_
 refine s0 (rd_assign' rfl) ?_
 refine s0 (rd_assign' rfl) ?_
 refine nk hK5 ?_
 refine cx_retc' ?_
 replace hp := Option.some.inj hp
 subst hp
 refine tx_pick' (L' := [(2, (Vg a0)), (3, (Vi 0))]) (H' := []) [] (sub_cons rfl (sub_cons rfl sub_nil)) (by decide) pick_nil ?_
 exact tx_ret2' Try.results156 rfl () (rv_imp' (x := (Vg a0)) (y := (Fl a0)) (rv_tmp' rfl) imp_vf) (rv_tmp' rfl) rfl (List.Sublist.refl _)

def math_Copysign (k : Nat) (a0 : Nat) (a1 : Nat) : Option (Nat) :=
 some (ffrom (ior .u64 (iandn .u64 (fbits a0) 9223372036854775808) (iand .u64 (fbits a1) 9223372036854775808)))

theorem math_Copysign_sim {k : Nat}  (a0 : Nat) (a1 : Nat) {out : Nat} (hp : math_Copysign k a0 a1 = some out) : Sx.Fn Try.prog 153 [(Vg a0), (Vg a1)] [] (fun w : Unit => (Vg out)) (fun w => []) := by
 unfold math_Copysign at hp
 refine fn_of Try.func153 rfl Try.ntmps153 rfl fun E hM => ?_
 refine cr fun K1 hK1 => ?_
 refine s0 (rd_assign' rfl) ?_
 refine nk hK1 ?_
 refine cr fun K2 hK2 => ?_
 refine s0 (rd_move' rfl) ?_
 refine s0 (rd_ext' (us := [.float .f64 a0]) rfl (ext53 ex_bits)) ?_
 refine s0 (rd_bin' rfl rfl eg_int ru_andn) ?_
 refine s0 (rd_move' rfl) ?_
 refine s0 (rd_ext' (us := [.float .f64 a1]) rfl (ext53 ex_bits)) ?_
 refine s0 (rd_bin' rfl rfl eg_int ru_and) ?_
 refine s0 (rd_bin' rfl rfl eg_int ru_or) ?_
 refine s0 (rd_ext' (us := [.int .u64 (ior .u64 (iandn .u64 (fbits a0) 9223372036854775808) (iand .u64 (fbits a1) 9223372036854775808))]) rfl (ext92 ex_from)) ?_
 refine s0 (rd_assign' rfl) ?_
 refine nk hK2 ?_
 refine cx_retc' ?_
 replace hp := Option.some.inj hp
 subst hp
 refine tx_pick' (L' := [(4, (Vg (ffrom (ior .u64 (iandn .u64 (fbits a0) 9223372036854775808) (iand .u64 (fbits a1) 9223372036854775808)))))]) (H' := []) [] (sub_cons rfl sub_nil) (by decide) pick_nil ?_
 exact tx_ret1' Try.results153 rfl () (rv_tmp' rfl) (List.Sublist.refl _)

def math_Inf_j1 (k : Nat) (x1 : Int) : Option (Nat) :=
 some (ffrom x1)
def math_Inf (k : Nat) (a0 : Int) : Option (Nat) :=
 br (decide (0 ≤ a0))
  (math_Inf_j1 k 9218868437227405312)
  (math_Inf_j1 k 18442240474082181120)

theorem math_Inf_sim {k : Nat}  (a0 : Int) {out : Nat} (hp : math_Inf k a0 = some out) : Sx.Fn Try.prog 135 [(Vi a0)] [] (fun w : Unit => (Vg out)) (fun w => []) := by
 unfold math_Inf at hp
 refine fn_of Try.func135 rfl Try.ntmps135 rfl fun E hM => ?_
 refine cr fun K1 hK1 => ?_
 refine s0 (rd_assign' rfl) ?_
 refine nk hK1 ?_
 refine cr fun K2 hK2 => ?_
 refine s0 (rd_assign' rfl) ?_
 refine nk hK2 ?_
 refine cx_join' (fun (v1 : Int) => (⟨8, [], [(3, (Vl (.int .u64 v1)))], []⟩ : St)) (fun (v1 : Int) => math_Inf_j1 k v1 = some out) ?_ ?_
 ·rintro x1 hp
  replace hp : math_Inf_j1 k x1 = some out := hp
  unfold math_Inf_j1 at hp
  refine cr fun K5 hK5 => ?_
  refine s0 (rd_move' rfl) ?_
  refine s0 (rd_ext' (us := [.int .u64 x1]) rfl (ext92 ex_from)) ?_
  refine s0 (rd_assign' rfl) ?_
  refine nk hK5 ?_
  refine cx_retc' ?_
  replace hp := Option.some.inj hp
  subst hp
  refine tx_pick' (L' := [(2, (Vg (ffrom x1)))]) (H' := []) [] (sub_cons rfl sub_nil) (by decide) pick_nil ?_
  exact tx_ret1' Try.results135 rfl () (rv_tmp' rfl) (List.Sublist.refl _)
 intro K3 hK3
 refine cr fun K4 hK4 => ?_
 refine s0 (rd_move' rfl) ?_
 refine s0 (rd_bin' rfl rfl eg_int ru_geq) ?_
 refine nk hK4 ?_
 refine cx_cond' rfl (fun h1 => ?_) (fun h1 => ?_)
 ·replace hp := (br_t h1).symm.trans hp
  refine cx_region' ?_
  refine s0 (rd_assign' rfl) ?_
  refine sx_nil' ?_
  show TX E K3 _
  exact tx_pick' [] (sub_cons rfl sub_nil) (by decide) pick_nil (hK3 9218868437227405312 hp)
 replace hp := (br_f h1).symm.trans hp
 refine cx_region' ?_
 refine s0 (rd_assign' rfl) ?_
 refine sx_nil' ?_
 show TX E K3 _
 exact tx_pick' [] (sub_cons rfl sub_nil) (by decide) pick_nil (hK3 18442240474082181120 hp)

def math_ldexp_j2 (k : Nat) (r22 : Nat × Int) (x2 : Int) (x3 : Nat) : Option (Nat) :=
 (ishl .u64 (icv .u64 (iadd .i64 x2 1023)) 52) >>= fun r57 =>
 (some (gmul x3 (ffrom (ior .u64 (iandn .u64 (fbits r22.1) 9218868437227405312) r57)))) >>= fun r62 =>
 some r62
def math_ldexp_j1 (k : Nat) (a0 : Nat) (a1 : Int) (x1 : Bool) : Option (Nat) :=
 br x1
  (some a0)
  ((math_normalize k a0) >>= fun r22 =>
  (num r22.1) >>= fun u1 =>
  (ishr .u64 (fbits r22.1) 52) >>= fun r32 =>
  br (decide ((iadd .i64 (iadd .i64 a1 r22.2) (isub .i64 (iand .i64 (icv .i64 r32) 2047) 1023)) < (-1075)))
   ((num r22.1) >>= fun u2 =>
   (math_Copysign k 0 r22.1) >>= fun r40 =>
   some r40)
   (br (decide (1023 < (iadd .i64 (iadd .i64 a1 r22.2) (isub .i64 (iand .i64 (icv .i64 r32) 2047) 1023))))
    (br (flt r22.1 0)
     ((math_Inf k (-1)) >>= fun r45 =>
     some r45)
     ((math_Inf k 1) >>= fun r46 =>
     some r46))
    (br (decide ((iadd .i64 (iadd .i64 a1 r22.2) (isub .i64 (iand .i64 (icv .i64 r32) 2047) 1023)) < (-1022)))
     (math_ldexp_j2 k r22 (iadd .i64 (iadd .i64 (iadd .i64 a1 r22.2) (isub .i64 (iand .i64 (icv .i64 r32) 2047) 1023)) 53) 4368491638549381120)
     (math_ldexp_j2 k r22 (iadd .i64 (iadd .i64 a1 r22.2) (isub .i64 (iand .i64 (icv .i64 r32) 2047) 1023)) 4607182418800017408))))
def math_ldexp (k : Nat) (a0 : Nat) (a1 : Int) : Option (Nat) :=
 br (feq a0 0)
  (some a0)
  ((math_IsInf k a0 0) >>= fun r14 =>
  br r14
   (math_ldexp_j1 k a0 a1 true)
   ((math_IsNaN k a0) >>= fun r17 =>
   math_ldexp_j1 k a0 a1 r17))

theorem math_ldexp_sim {k : Nat}  (a0 : Nat) (a1 : Int) {out : Nat} (hp : math_ldexp k a0 a1 = some out) : Sx.Fn Try.prog 143 [(Vg a0), (Vi a1)] [] (fun w : Unit => (Fl out)) (fun w => []) := by
 unfold math_ldexp at hp
 refine fn_of Try.func143 rfl Try.ntmps143 rfl fun E hM => ?_
 refine cr fun K1 hK1 => ?_
 refine s0 (rd_assign' rfl) ?_
 refine nk hK1 ?_
 refine cx_seq' fun K2 hK2 => ?_
 refine cx_block' ?_
 refine cr fun K3 hK3 => ?_
 refine s0 (rd_move' rfl) ?_
 refine s0 (rd_bin' rfl rfl eg_flt ru_feq) ?_
 refine s0 (rd_assign' rfl) ?_
 refine nk hK3 ?_
 refine cx_cond' rfl (fun h1 => ?_) (fun h1 => ?_)
 ·replace hp := (br_t h1).symm.trans hp
  refine cr fun K4 hK4 => ?_
  refine s0 (rd_move' rfl) ?_
  refine s0 (rd_assign' rfl) ?_
  refine nk hK4 ?_
  refine cx_retc' ?_
  replace hp := Option.some.inj hp
  subst hp
  refine tx_pick' (L' := [(4, (Vg a0))]) (H' := []) [] (sub_cons rfl sub_nil) (by decide) pick_nil ?_
  exact tx_ret1' Try.results143 rfl () (rv_imp' (x := (Vg a0)) (y := (Fl a0)) (rv_tmp' rfl) imp_vf) (List.Sublist.refl _)
 replace hp := (br_f h1).symm.trans hp
 refine cr fun K5 hK5 => ?_
 refine s0 (rd_move' rfl) ?_
 obtain ⟨r14, hr14, hp⟩ := bind_some hp
 refine sx_ox' (ox_calln' (ent_fn' Try.func149 isn149 rfl rfl) (math_IsInf_sim _ _ hr14 : Sx.Fn Try.prog 149 [(Vg a0), (Vi 0)] [] (fun x : Unit => (Vb r14)) (fun x => [])) (Hn := fun x : Unit => []) (fun _ => rfl) rfl rfl) (wt_none' rfl) fun ⟨⟩ => ?_
 refine s0 (rd_move' rfl) ?_
 refine sx_cutn' 3 (fun (v1 : Bool) => (⟨63, [], [(0, (Vg a0)), (1, (Vi a1)), (18, (Vb v1))], []⟩ : St)) (fun (v1 : Bool) => math_ldexp_j1 k a0 a1 v1 = some out) ?_ ?_
 ·rintro x1 hp
  replace hp : math_ldexp_j1 k a0 a1 x1 = some out := hp
  unfold math_ldexp_j1 at hp
  refine s0 (rd_assign' rfl) ?_
  refine nk hK5 ?_
  refine cx_cond' rfl (fun h3 => ?_) (fun h3 => ?_)
  ·replace hp := (br_t h3).symm.trans hp
   refine cr fun K7 hK7 => ?_
   refine s0 (rd_move' rfl) ?_
   refine s0 (rd_assign' rfl) ?_
   refine nk hK7 ?_
   refine cx_retc' ?_
   replace hp := Option.some.inj hp
   subst hp
   refine tx_pick' (L' := [(4, (Vg a0))]) (H' := []) [] (sub_cons rfl sub_nil) (by decide) pick_nil ?_
   exact tx_ret1' Try.results143 rfl () (rv_imp' (x := (Vg a0)) (y := (Fl a0)) (rv_tmp' rfl) imp_vf) (List.Sublist.refl _)
  replace hp := (br_f h3).symm.trans hp
  refine cx_skip' ?_
  show TX E K2 _
  refine tx_k' hK2 ?_
  refine cr fun K8 hK8 => ?_
  refine s0 (rd_move' rfl) ?_
  obtain ⟨r22, hr22, hp⟩ := bind_some hp
  refine sx_ox' (ox_calln' (ent_fn' Try.func156 isn156 rfl rfl) (math_normalize_sim _ hr22 : Sx.Fn Try.prog 156 [(Vg a0)] [] (fun x : Unit => (Tu [(Fl r22.1), (Vi r22.2)])) (fun x => [])) (Hn := fun x : Unit => []) (fun _ => rfl) rfl rfl) (wt_none' rfl) fun ⟨⟩ => ?_
  refine s0 (rd_move' rfl) ?_
  refine s0 (rd_extract' rfl rfl) ?_
  refine s0 (rd_extract' rfl rfl) ?_
  refine s0 (rd_assign' rfl) ?_
  refine s0 (rd_assign' rfl) ?_
  refine nk hK8 ?_
  refine cr fun K9 hK9 => ?_
  refine s0 (rd_move' rfl) ?_
  refine s0 (rd_move' rfl) ?_
  refine s0 (rd_bin' rfl rfl eg_int ru_add) ?_
  refine s0 (rd_assign' rfl) ?_
  refine nk hK9 ?_
  refine cr fun K10 hK10 => ?_
  refine s0 (rd_move' rfl) ?_
  obtain ⟨u1, hu1, hp⟩ := bind_some hp
  refine tx_slot' 28 (y := (Vg r22.1)) rfl (imp_num (num_some hu1).2) ?_
  refine s0 (rd_ext' (us := [.float .f64 r22.1]) rfl (ext53 ex_bits)) ?_
  refine s0 (rd_assign' rfl) ?_
  refine nk hK10 ?_
  refine cr fun K11 hK11 => ?_
  refine s0 (rd_move' rfl) ?_
  refine s0 (rd_move' rfl) ?_
  obtain ⟨r32, hr32, hp⟩ := bind_some hp
  refine s0 (rd_bin' rfl rfl eg_int (ru_shr hr32)) ?_
  refine s0 (rd_conv' rfl (ru_i2i (by rw [Try.underlying107]; rfl) Try.underlying3)) ?_
  refine s0 (rd_bin' rfl rfl eg_int ru_and) ?_
  refine s0 (rd_bin' rfl rfl eg_int ru_sub) ?_
  refine s0 (rd_bin' rfl rfl eg_int ru_add) ?_
  refine s0 (rd_assign' rfl) ?_
  refine nk hK11 ?_
  refine cx_seq' fun K12 hK12 => ?_
  refine cr fun K13 hK13 => ?_
  refine s0 (rd_move' rfl) ?_
  refine s0 (rd_bin' rfl rfl eg_int ru_lss) ?_
  refine nk hK13 ?_
  refine cx_cond' rfl (fun h4 => ?_) (fun h4 => ?_)
  ·replace hp := (br_t h4).symm.trans hp
   refine cr fun K14 hK14 => ?_
   refine s0 (rd_move' rfl) ?_
   obtain ⟨u2, hu2, hp⟩ := bind_some hp
   refine tx_slot' 39 (y := (Vg r22.1)) rfl (imp_num (num_some hu2).2) ?_
   obtain ⟨r40, hr40, hp⟩ := bind_some hp
   refine sx_ox' (ox_calln' (ent_fn' Try.func153 isn153 rfl rfl) (math_Copysign_sim _ _ hr40 : Sx.Fn Try.prog 153 [(Vg 0), (Vg r22.1)] [] (fun x : Unit => (Vg r40)) (fun x => [])) (Hn := fun x : Unit => []) (fun _ => rfl) rfl rfl) (wt_none' rfl) fun ⟨⟩ => ?_
   refine s0 (rd_assign' rfl) ?_
   refine nk hK14 ?_
   refine cx_retc' ?_
   replace hp := Option.some.inj hp
   subst hp
   refine tx_pick' (L' := [(4, (Vg r40))]) (H' := []) [] (sub_cons rfl sub_nil) (by decide) pick_nil ?_
   exact tx_ret1' Try.results143 rfl () (rv_imp' (x := (Vg r40)) (y := (Fl r40)) (rv_tmp' rfl) imp_vf) (List.Sublist.refl _)
  replace hp := (br_f h4).symm.trans hp
  refine cx_skip' ?_
  show TX E K12 _
  refine tx_k' hK12 ?_
  refine cx_seq' fun K15 hK15 => ?_
  refine cr fun K16 hK16 => ?_
  refine s0 (rd_move' rfl) ?_
  refine s0 (rd_bin' rfl rfl eg_int ru_gtr) ?_
  refine nk hK16 ?_
  refine cx_cond' rfl (fun h5 => ?_) (fun h5 => ?_)
  ·replace hp := (br_t h5).symm.trans hp
   refine cx_seq' fun K17 hK17 => ?_
   refine cr fun K18 hK18 => ?_
   refine s0 (rd_move' rfl) ?_
   refine s0 (rd_fcmp' (fl_f rfl) (fl_v rfl) rfl) ?_
   refine nk hK18 ?_
   refine cx_cond' rfl (fun h6 => ?_) (fun h6 => ?_)
   ·replace hp := (br_t h6).symm.trans hp
    refine cr fun K19 hK19 => ?_
    obtain ⟨r45, hr45, hp⟩ := bind_some hp
    refine sx_ox' (ox_calln' (ent_fn' Try.func135 isn135 rfl rfl) (math_Inf_sim _ hr45 : Sx.Fn Try.prog 135 [(Vi (-1))] [] (fun x : Unit => (Vg r45)) (fun x => [])) (Hn := fun x : Unit => []) (fun _ => rfl) rfl rfl) (wt_none' rfl) fun ⟨⟩ => ?_
    refine s0 (rd_assign' rfl) ?_
    refine nk hK19 ?_
    refine cx_retc' ?_
    replace hp := Option.some.inj hp
    subst hp
    refine tx_pick' (L' := [(4, (Vg r45))]) (H' := []) [] (sub_cons rfl sub_nil) (by decide) pick_nil ?_
    exact tx_ret1' Try.results143 rfl () (rv_imp' (x := (Vg r45)) (y := (Fl r45)) (rv_tmp' rfl) imp_vf) (List.Sublist.refl _)
   replace hp := (br_f h6).symm.trans hp
   refine cx_skip' ?_
   show TX E K17 _
   refine tx_k' hK17 ?_
   refine cr fun K20 hK20 => ?_
   obtain ⟨r46, hr46, hp⟩ := bind_some hp
   refine sx_ox' (ox_calln' (ent_fn' Try.func135 isn135 rfl rfl) (math_Inf_sim _ hr46 : Sx.Fn Try.prog 135 [(Vi 1)] [] (fun x : Unit => (Vg r46)) (fun x => [])) (Hn := fun x : Unit => []) (fun _ => rfl) rfl rfl) (wt_none' rfl) fun ⟨⟩ => ?_
   refine s0 (rd_assign' rfl) ?_
   refine nk hK20 ?_
   refine cx_retc' ?_
   replace hp := Option.some.inj hp
   subst hp
   refine tx_pick' (L' := [(4, (Vg r46))]) (H' := []) [] (sub_cons rfl sub_nil) (by decide) pick_nil ?_
   exact tx_ret1' Try.results143 rfl () (rv_imp' (x := (Vg r46)) (y := (Fl r46)) (rv_tmp' rfl) imp_vf) (List.Sublist.refl _)
  replace hp := (br_f h5).symm.trans hp
  refine cx_skip' ?_
  show TX E K15 _
  refine tx_k' hK15 ?_
  refine cr fun K21 hK21 => ?_
  refine s0 (rd_assign' rfl) ?_
  refine nk hK21 ?_
  refine cx_join' (fun (v2 : Int × Nat) => (⟨63, [], [(1, (Vi v2.1)), (6, (Vl (.int .u64 (fbits r22.1)))), (7, (Vg v2.2))], []⟩ : St)) (fun (v2 : Int × Nat) => math_ldexp_j2 k r22 v2.1 v2.2 = some out) ?_ ?_
  ·rintro ⟨x2, x3⟩ hp
   replace hp : math_ldexp_j2 k r22 x2 x3 = some out := hp
   unfold math_ldexp_j2 at hp
   refine cr fun K25 hK25 => ?_
   refine s0 (rd_move' rfl) ?_
   refine s0 (rd_bin' rfl rfl eg_int ru_andn) ?_
   refine s0 (rd_assign' rfl) ?_
   refine nk hK25 ?_
   refine cr fun K26 hK26 => ?_
   refine s0 (rd_move' rfl) ?_
   refine s0 (rd_move' rfl) ?_
   refine s0 (rd_bin' rfl rfl eg_int ru_add) ?_
   refine s0 (rd_conv' rfl (ru_i2i (by rw [Try.underlying3]; rfl) Try.underlying107)) ?_
   obtain ⟨r57, hr57, hp⟩ := bind_some hp
   refine s0 (rd_bin' rfl rfl eg_int (ru_shl hr57)) ?_
   refine s0 (rd_bin' rfl rfl eg_int ru_or) ?_
   refine s0 (rd_assign' rfl) ?_
   refine nk hK26 ?_
   refine cr fun K27 hK27 => ?_
   refine s0 (rd_move' rfl) ?_
   refine s0 (rd_move' rfl) ?_
   refine s0 (rd_ext' (us := [.int .u64 (ior .u64 (iandn .u64 (fbits r22.1) 9218868437227405312) r57)]) rfl (ext92 ex_from)) ?_
   obtain ⟨r62, hr62, hp⟩ := bind_some hp
   refine sx_ox' (ox_fop' (.inr (.inr (.inl rfl))) (fl_v rfl) (fl_v rfl) (Option.some.inj hr62) rfl rfl) (wt_none' rfl) fun _ => ?_
   refine s0 (rd_assign' rfl) ?_
   refine nk hK27 ?_
   refine cx_retc' ?_
   replace hp := Option.some.inj hp
   subst hp
   refine tx_pick' (L' := [(4, (Fl r62))]) (H' := []) [] (sub_cons rfl sub_nil) (by decide) pick_nil ?_
   exact tx_ret1' Try.results143 rfl () (rv_tmp' rfl) (List.Sublist.refl _)
  intro K22 hK22
  refine cr fun K23 hK23 => ?_
  refine s0 (rd_move' rfl) ?_
  refine s0 (rd_bin' rfl rfl eg_int ru_lss) ?_
  refine nk hK23 ?_
  refine cx_cond' rfl (fun h7 => ?_) (fun h7 => ?_)
  ·replace hp := (br_t h7).symm.trans hp
   refine cr fun K24 hK24 => ?_
   refine s0 (rd_move' rfl) ?_
   refine s0 (rd_bin' rfl rfl eg_int ru_add) ?_
   refine s0 (rd_assign' rfl) ?_
   refine nk hK24 ?_
   refine cx_region' ?_
   refine s0 (rd_assign' rfl) ?_
   refine sx_nil' ?_
   show TX E K22 _
   exact tx_pick' [] (sub_cons rfl (sub_cons rfl (sub_cons rfl sub_nil))) (by decide) pick_nil (hK22 ((iadd .i64 (iadd .i64 (iadd .i64 a1 r22.2) (isub .i64 (iand .i64 (icv .i64 r32) 2047) 1023)) 53), 4368491638549381120) hp)
  replace hp := (br_f h7).symm.trans hp
  refine cx_skip' ?_
  show TX E K22 _
  exact tx_pick' [] (sub_cons rfl (sub_cons rfl (sub_cons rfl sub_nil))) (by decide) pick_nil (hK22 ((iadd .i64 (iadd .i64 a1 r22.2) (isub .i64 (iand .i64 (icv .i64 r32) 2047) 1023)), 4607182418800017408) hp)
 intro K6 hK6
 rcases br_cases hp with ⟨h2, hp⟩ | ⟨h2, hp⟩
 ·refine sx_skip' rfl rfl (wt_is' (wt_guard' rfl rfl rfl) (beq_tf h2)) ?_
  refine sx_skip' rfl rfl (wt_is' (wt_guard' rfl rfl rfl) (beq_tf h2)) ?_
  refine s0 (rd_pick_true' rfl h2 rfl) ?_
  refine sx_nil' ?_
  show TX E K6 _
  exact tx_pick' [] (sub_cons rfl (sub_cons rfl (sub_cons rfl sub_nil))) (by decide) pick_nil (hK6 true hp)
 refine sx_rd' (rd_move' rfl) rfl rfl (wt_is' (wt_guard' rfl rfl rfl) (beq_ff h2)) ?_
 obtain ⟨r17, hr17, hp⟩ := bind_some hp
 refine sx_ox' (ox_calln' (ent_fn' Try.func118 isn118 rfl rfl) (math_IsNaN_sim _ hr17 : Sx.Fn Try.prog 118 [(Vg a0)] [] (fun x : Unit => (Vb r17)) (fun x => [])) (Hn := fun x : Unit => []) (fun _ => rfl) rfl rfl) (wt_is' (wt_guard' rfl rfl rfl) (beq_ff h2)) fun ⟨⟩ => ?_
 refine s0 (rd_pick_false' rfl h2 rfl) ?_
 refine sx_nil' ?_
 show TX E K6 _
 exact tx_pick' [] (sub_cons rfl (sub_cons rfl (sub_cons rfl sub_nil))) (by decide) pick_nil (hK6 r17 hp)

def math_Ldexp (k : Nat) (a0 : Nat) (a1 : Int) : Option (Nat) :=
 (math_ldexp k a0 a1) >>= fun r10 =>
 some r10

theorem math_Ldexp_sim {k : Nat}  (a0 : Nat) (a1 : Int) {out : Nat} (hp : math_Ldexp k a0 a1 = some out) : Sx.Fn Try.prog 114 [(Vg a0), (Vi a1)] [] (fun w : Unit => (Fl out)) (fun w => []) := by
 unfold math_Ldexp at hp
 refine fn_of Try.func114 rfl Try.ntmps114 rfl fun E hM => ?_
 refine cr fun K1 hK1 => ?_
 refine s0 (rd_assign' rfl) ?_
 refine nk hK1 ?_
 refine cx_seq' fun K2 hK2 => ?_
 refine cx_cond_f' rfl rfl ?_
 refine cx_skip' ?_
 show TX E K2 _
 refine tx_k' hK2 ?_
 refine cr fun K3 hK3 => ?_
 refine s0 (rd_move' rfl) ?_
 refine s0 (rd_move' rfl) ?_
 obtain ⟨r10, hr10, hp⟩ := bind_some hp
 refine sx_ox' (ox_calln' (ent_fn' Try.func143 isn143 rfl rfl) (math_ldexp_sim _ _ hr10 : Sx.Fn Try.prog 143 [(Vg a0), (Vi a1)] [] (fun x : Unit => (Fl r10)) (fun x => [])) (Hn := fun x : Unit => []) (fun _ => rfl) rfl rfl) (wt_none' rfl) fun ⟨⟩ => ?_
 refine s0 (rd_assign' rfl) ?_
 refine nk hK3 ?_
 refine cx_retc' ?_
 replace hp := Option.some.inj hp
 subst hp
 refine tx_pick' (L' := [(4, (Fl r10))]) (H' := []) [] (sub_cons rfl sub_nil) (by decide) pick_nil ?_
 exact tx_ret1' Try.results114 rfl () (rv_tmp' rfl) (List.Sublist.refl _)

def spec_Dyadic_Float_j2 (k : Nat) (rec1 : (Int × Int) → Option (Int)) (x4 : Int) (x2 : Int) : Option (Int) :=
 rec1 (x2, (iadd .i64 x4 1))
def spec_Dyadic_Float_l1s (r13 : Int) (a0_2 : Int) (a0_0 : Bool) (a0_1 : List Int) (k : Nat) (rec1 : (Int × Int) → Option (Int)) (x3 : Int) (x4 : Int) : Option (Int) :=
 br (decide (x4 < (imin 53 (iadd .i64 (iadd .i64 r13 a0_2) 1074))))
  ((ishl .u64 x3 1) >>= fun r30 =>
  (spec_Whole_top k a0_0 a0_1) >>= fun r35 =>
  (spec_Whole_bit k a0_0 a0_1 (isub .i64 (isub .i64 r35 1) x4)) >>= fun r39 =>
  br r39
   (spec_Dyadic_Float_j2 k rec1 x4 (iadd .u64 r30 1))
   (spec_Dyadic_Float_j2 k rec1 x4 r30))
  (some x3)
def spec_Dyadic_Float_l1 (r13 : Int) (a0_2 : Int) (a0_0 : Bool) (a0_1 : List Int) : Nat → (Int × Int) → Option (Int)
 | 0, _ => none
 | k + 1, v => spec_Dyadic_Float_l1s r13 a0_2 a0_0 a0_1 k (spec_Dyadic_Float_l1 r13 a0_2 a0_0 a0_1 k) v.1 v.2
def spec_Dyadic_Float_j6 (k : Nat) (a0_2 : Int) (r21 : Int) (r13 : Int) (a0_0 : Bool) (x9 : Int) : Option (Nat) :=
 (math_Ldexp k (i2f x9) (iadd .i64 a0_2 (isub .i64 r21 (imin 53 (iadd .i64 (iadd .i64 r13 a0_2) 1074))))) >>= fun r71 =>
 br a0_0
  (some (fneg r71))
  (some r71)
def spec_Dyadic_Float_j5 (k : Nat) (a0_2 : Int) (r21 : Int) (r13 : Int) (a0_0 : Bool) (v4 : Int) (x8 : Bool) : Option (Nat) :=
 br x8
  (spec_Dyadic_Float_j6 k a0_2 r21 r13 a0_0 (iadd .u64 v4 1))
  (spec_Dyadic_Float_j6 k a0_2 r21 r13 a0_0 v4)
def spec_Dyadic_Float_j4 (k : Nat) (a0_2 : Int) (r21 : Int) (r13 : Int) (a0_0 : Bool) (v4 : Int) (x7 : Bool) : Option (Nat) :=
 spec_Dyadic_Float_j5 k a0_2 r21 r13 a0_0 v4 x7
def spec_Dyadic_Float_j3 (k : Nat) (v4 : Int) (a0_2 : Int) (r21 : Int) (r13 : Int) (a0_0 : Bool) (a0_1 : List Int) (x6 : Bool) : Option (Nat) :=
 br x6
  ((irem v4 2) >>= fun r53 =>
  br (decide (r53 = 1))
   (spec_Dyadic_Float_j4 k a0_2 r21 r13 a0_0 v4 true)
   ((spec_Whole_low k a0_0 a0_1 (isub .i64 (isub .i64 r21 (imin 53 (iadd .i64 (iadd .i64 r13 a0_2) 1074))) 1)) >>= fun r60 =>
   spec_Dyadic_Float_j4 k a0_2 r21 r13 a0_0 v4 r60))
  (spec_Dyadic_Float_j5 k a0_2 r21 r13 a0_0 v4 false)
def spec_Dyadic_Float (k : Nat) (a0_0 : Bool) (a0_1 : List Int) (a0_2 : Int) : Option (Nat) :=
 (spec_Dyadic_Sign k a0_0 a0_1 a0_2) >>= fun r9 =>
 br (decide (r9 = 0))
  (some 0)
  ((spec_Whole_top k a0_0 a0_1) >>= fun r13 =>
  (spec_Whole_top k a0_0 a0_1) >>= fun r21 =>
  (spec_Dyadic_Float_l1 r13 a0_2 a0_0 a0_1 k (0, 0)) >>= fun v4 =>
  br (decide (0 < (isub .i64 r21 (imin 53 (iadd .i64 (iadd .i64 r13 a0_2) 1074)))))
   ((spec_Whole_bit k a0_0 a0_1 (isub .i64 (isub .i64 r21 (imin 53 (iadd .i64 (iadd .i64 r13 a0_2) 1074))) 1)) >>= fun r49 =>
   spec_Dyadic_Float_j3 k v4 a0_2 r21 r13 a0_0 a0_1 r49)
   (spec_Dyadic_Float_j3 k v4 a0_2 r21 r13 a0_0 a0_1 false))

theorem spec_Dyadic_Float_sim {k : Nat}  (a0_0 : Bool) (a0_1 : List Int) (a0_2 : Int) {out : Nat} (hp : spec_Dyadic_Float k a0_0 a0_1 a0_2 = some out) : Sx.Fn Try.prog 74 [(Ag [(Vb a0_0), (Sl (Ki .u32) a0_1), (Vi a0_2)])] [] (fun w : Unit => (Fl out)) (fun w => []) := by
 unfold spec_Dyadic_Float at hp
 refine fn_of Try.func74 rfl Try.ntmps74 rfl fun E hM => ?_
 refine cr fun K1 hK1 => ?_
 refine sx_ox' (ox_box' rfl (lv_ag _) rfl rfl) (wt_none' rfl) fun q1 => ?_
 refine s0 (rd_assign' rfl) ?_
 refine nk hK1 ?_
 refine cx_seq' fun K2 hK2 => ?_
 refine cr fun K3 hK3 => ?_
 refine s0 (rd_load_agg' (i := 0) (o := 0) (nn := 3) rfl ⟨rfl, rfl, rfl, rfl⟩ rfl agg74 (l' := [(Vb a0_0), (Sl (Ki .u32) a0_1), (Vi a0_2)]) rfl) ?_
 obtain ⟨r9, hr9, hp⟩ := bind_some hp
 refine sx_ox' (ox_calln' (ent_fn' Try.func82 isn82 rfl rfl) (spec_Dyadic_Sign_sim _ _ _ hr9 : Sx.Fn Try.prog 82 [(Ag [(Vb a0_0), (Sl (Ki .u32) a0_1), (Vi a0_2)])] [] (fun x : Unit => (Vi r9)) (fun x => [])) (Hn := fun x : Unit => [⟨.pointer (some q1), [(Vb a0_0), (Sl (Ki .u32) a0_1), (Vi a0_2)], 74, none⟩]) (fun _ => rfl) rfl rfl) (wt_none' rfl) fun ⟨⟩ => ?_
 refine s0 (rd_bin' rfl rfl eg_int ru_eql) ?_
 refine nk hK3 ?_
 refine cx_cond' rfl (fun h1 => ?_) (fun h1 => ?_)
 ·replace hp := (br_t h1).symm.trans hp
  refine cr fun K4 hK4 => ?_
  refine s0 (rd_assign' rfl) ?_
  refine nk hK4 ?_
  refine cx_retc' ?_
  replace hp := Option.some.inj hp
  subst hp
  refine tx_pick' (L' := [(2, (Vg 0))]) (H' := []) [] (sub_cons rfl sub_nil) (by decide) pick_nil ?_
  exact tx_ret1' Try.results74 rfl () (rv_imp' (x := (Vg 0)) (y := (Fl 0)) (rv_tmp' rfl) imp_vf) (List.Sublist.refl _)
 replace hp := (br_f h1).symm.trans hp
 refine cx_skip' ?_
 show TX E K2 _
 refine tx_k' hK2 ?_
 refine cx_seq' fun K5 hK5 => ?_
 refine cx_plan' [] [] [(0, 1), (1, 1), (3, 1), (4, 1), (2, 0), (5, 1), (6, 1), (7, 1), (8, 1)] mixed (by kernel_rfl) ?_
 refine px_rd' rfl (rd_field0' rfl Try.underlying74 rfl info72 rfl) rfl rfl (wt_none' rfl) ?_
 refine px_rd' rfl (rd_load_agg' (i := 0) (o := 0) (nn := 2) rfl ⟨rfl, rfl, rfl, rfl⟩ rfl agg72 (l' := [(Vb a0_0), (Sl (Ki .u32) a0_1)]) rfl) rfl rfl (wt_none' rfl) ?_
 refine px_rd' rfl (rd_field' (off := 2) rfl Try.underlying74 rfl info3 rfl) rfl rfl (wt_none' rfl) ?_
 refine px_rd' rfl (rd_load' (i := 0) (o := 2) rfl ⟨rfl, rfl, rfl, rfl⟩ rfl flat3) rfl rfl (wt_none' rfl) ?_
 obtain ⟨r13, hr13, hp⟩ := bind_some hp
 refine px_ox' rfl (ox_calln' (ent_fn' Try.func111 isn111 rfl rfl) (spec_Whole_top_sim _ _ hr13 : Sx.Fn Try.prog 111 [(Ag [(Vb a0_0), (Sl (Ki .u32) a0_1)])] [] (fun x : Unit => (Vi r13)) (fun x => [])) (Hn := fun x : Unit => [⟨.pointer (some q1), [(Vb a0_0), (Sl (Ki .u32) a0_1), (Vi a0_2)], 74, none⟩]) (fun _ => rfl) rfl rfl) rfl bs_nil (wt_none' rfl) fun ⟨⟩ => ?_
 refine px_rd' rfl (rd_bin' rfl rfl eg_int ru_add) rfl rfl (wt_none' rfl) ?_
 refine px_rd' rfl (rd_bin' rfl rfl eg_int ru_add) rfl rfl (wt_none' rfl) ?_
 refine px_rd' rfl (rd_imin' rfl rfl) rfl rfl (wt_none' rfl) ?_
 refine px_rd' rfl (rd_assign' rfl) rfl rfl (wt_none' rfl) ?_
 refine px_nil' ?_
 show TX E K5 _
 refine tx_k' hK5 ?_
 refine cr fun K6 hK6 => ?_
 refine s0 (rd_field0' rfl Try.underlying74 rfl info72 rfl) ?_
 refine s0 (rd_load_agg' (i := 0) (o := 0) (nn := 2) rfl ⟨rfl, rfl, rfl, rfl⟩ rfl agg72 (l' := [(Vb a0_0), (Sl (Ki .u32) a0_1)]) rfl) ?_
 obtain ⟨r21, hr21, hp⟩ := bind_some hp
 refine sx_ox' (ox_calln' (ent_fn' Try.func111 isn111 rfl rfl) (spec_Whole_top_sim _ _ hr21 : Sx.Fn Try.prog 111 [(Ag [(Vb a0_0), (Sl (Ki .u32) a0_1)])] [] (fun x : Unit => (Vi r21)) (fun x => [])) (Hn := fun x : Unit => [⟨.pointer (some q1), [(Vb a0_0), (Sl (Ki .u32) a0_1), (Vi a0_2)], 74, none⟩]) (fun _ => rfl) rfl rfl) (wt_none' rfl) fun ⟨⟩ => ?_
 refine s0 (rd_move' rfl) ?_
 refine s0 (rd_bin' rfl rfl eg_int ru_sub) ?_
 refine s0 (rd_assign' rfl) ?_
 refine nk hK6 ?_
 refine cr fun K7 hK7 => ?_
 refine s0 (rd_assign' rfl) ?_
 refine nk hK7 ?_
 refine cx_seq' fun K8 hK8 => ?_
 refine cr fun K9 hK9 => ?_
 refine s0 (rd_assign' rfl) ?_
 refine nk hK9 ?_
 refine cx_block' ?_
 obtain ⟨v4, hy1, hp⟩ := bind_some hp
 refine cx_loopg' (F := spec_Dyadic_Float_l1 r13 a0_2 a0_0 a0_1) (G := fun k R v => spec_Dyadic_Float_l1s r13 a0_2 a0_0 a0_1 k R v.1 v.2) (x := (0, 0)) (gh := ()) (fun (v2 : Int × Int) (w2 : Unit) => (⟨78, [], [(1, (Vp q1)), (3, (Vi (imin 53 (iadd .i64 (iadd .i64 r13 a0_2) 1074)))), (4, (Vi (isub .i64 r21 (imin 53 (iadd .i64 (iadd .i64 r13 a0_2) 1074))))), (5, (Vl (.int .u64 v2.1))), (6, (Vi v2.2))], [⟨.pointer (some q1), [(Vb a0_0), (Sl (Ki .u32) a0_1), (Vi a0_2)], 74, none⟩]⟩ : St)) (fun (v4 : Int) => Zg E (Exit.exit 0) (fun (w4 : Unit) => (⟨78, [], [(1, (Vp q1)), (4, (Vi (isub .i64 r21 (imin 53 (iadd .i64 (iadd .i64 r13 a0_2) 1074))))), (5, (Vl (.int .u64 v4)))], [⟨.pointer (some q1), [(Vb a0_0), (Sl (Ki .u32) a0_1), (Vi a0_2)], 74, none⟩]⟩ : St))) (fun _ => rfl) (fun _ _ => rfl) ?_ hy1 (tx_to' rfl [0] (sub_cons rfl (sub_cons rfl (sub_cons rfl (sub_cons rfl (sub_cons rfl sub_nil))))) (by decide) (pick_cons rfl pick_nil)) ?_
 ·clear hp hy1
  clear v4
  intro k rec1 KY1 ih1
  rintro ⟨x3, x4⟩ ⟨⟩ y1 hp
  replace hp : spec_Dyadic_Float_l1s r13 a0_2 a0_0 a0_1 k rec1 x3 x4 = some y1 := hp
  unfold spec_Dyadic_Float_l1s at hp
  refine cx_seq' fun K15 hK15 => ?_
  refine cr fun K16 hK16 => ?_
  refine s0 (rd_move' rfl) ?_
  refine s0 (rd_move' rfl) ?_
  refine s0 (rd_bin' rfl rfl eg_int ru_lss) ?_
  refine nk hK16 ?_
  refine cx_cond' rfl (fun h5 => ?_) (fun h5 => ?_)
  ·replace hp := (br_t h5).symm.trans hp
   refine cx_skip' ?_
   show TX E K15 _
   refine tx_k' hK15 ?_
   refine cx_join' (fun (v3 : Int) => (⟨78, [], [(1, (Vp q1)), (3, (Vi (imin 53 (iadd .i64 (iadd .i64 r13 a0_2) 1074)))), (4, (Vi (isub .i64 r21 (imin 53 (iadd .i64 (iadd .i64 r13 a0_2) 1074))))), (5, (Vl (.int .u64 v3))), (6, (Vi x4))], [⟨.pointer (some q1), [(Vb a0_0), (Sl (Ki .u32) a0_1), (Vi a0_2)], 74, none⟩]⟩ : St)) (fun (v3 : Int) => spec_Dyadic_Float_j2 k rec1 x4 v3 = some y1) ?_ ?_
   ·rintro x2 hp
    replace hp : spec_Dyadic_Float_j2 k rec1 x4 x2 = some y1 := hp
    unfold spec_Dyadic_Float_j2 at hp
    refine cx_region' ?_
    refine s0 (rd_move' rfl) ?_
    refine s0 (rd_bin' rfl rfl eg_int ru_add) ?_
    refine s0 (rd_assign' rfl) ?_
    refine sx_nil' ?_
    show TX E (KY1 _) _
    exact tx_pick' [0] (sub_cons rfl (sub_cons rfl (sub_cons rfl (sub_cons rfl (sub_cons rfl sub_nil))))) (by decide) (pick_cons rfl pick_nil) (ih1 (x2, (iadd .i64 x4 1)) () _ hp)
   intro K17 hK17
   refine cx_block' ?_
   refine cr fun K18 hK18 => ?_
   refine s0 (rd_move' rfl) ?_
   obtain ⟨r30, hr30, hp⟩ := bind_some hp
   refine s0 (rd_bin' rfl rfl eg_int (ru_shl hr30)) ?_
   refine s0 (rd_assign' rfl) ?_
   refine nk hK18 ?_
   refine cx_seq' fun K19 hK19 => ?_
   refine cx_plan' [] [] [(0, 1), (1, 1), (2, 1), (3, 1), (6, 1), (4, 0), (5, 1), (7, 1), (8, 0)] mixed (by kernel_rfl) ?_
   refine px_rd' rfl (rd_field0' rfl Try.underlying74 rfl info72 rfl) rfl rfl (wt_none' rfl) ?_
   refine px_rd' rfl (rd_load_agg' (i := 0) (o := 0) (nn := 2) rfl ⟨rfl, rfl, rfl, rfl⟩ rfl agg72 (l' := [(Vb a0_0), (Sl (Ki .u32) a0_1)]) rfl) rfl rfl (wt_none' rfl) ?_
   refine px_rd' rfl (rd_field0' rfl Try.underlying74 rfl info72 rfl) rfl rfl (wt_none' rfl) ?_
   refine px_rd' rfl (rd_load_agg' (i := 0) (o := 0) (nn := 2) rfl ⟨rfl, rfl, rfl, rfl⟩ rfl agg72 (l' := [(Vb a0_0), (Sl (Ki .u32) a0_1)]) rfl) rfl rfl (wt_none' rfl) ?_
   refine px_rd' rfl (rd_move' rfl) rfl rfl (wt_none' rfl) ?_
   obtain ⟨r35, hr35, hp⟩ := bind_some hp
   refine px_ox' rfl (ox_calln' (ent_fn' Try.func111 isn111 rfl rfl) (spec_Whole_top_sim _ _ hr35 : Sx.Fn Try.prog 111 [(Ag [(Vb a0_0), (Sl (Ki .u32) a0_1)])] [] (fun x : Unit => (Vi r35)) (fun x => [])) (Hn := fun x : Unit => [⟨.pointer (some q1), [(Vb a0_0), (Sl (Ki .u32) a0_1), (Vi a0_2)], 74, none⟩]) (fun _ => rfl) rfl rfl) rfl bs_nil (wt_none' rfl) fun ⟨⟩ => ?_
   refine px_rd' rfl (rd_bin' rfl rfl eg_int ru_sub) rfl rfl (wt_none' rfl) ?_
   refine px_rd' rfl (rd_bin' rfl rfl eg_int ru_sub) rfl rfl (wt_none' rfl) ?_
   obtain ⟨r39, hr39, hp⟩ := bind_some hp
   refine px_ox' rfl (ox_calln' (ent_fn' Try.func112 isn112 rfl rfl) (spec_Whole_bit_sim _ _ _ hr39 : Sx.Fn Try.prog 112 [(Ag [(Vb a0_0), (Sl (Ki .u32) a0_1)]), (Vi (isub .i64 (isub .i64 r35 1) x4))] [] (fun x : Unit => (Vb r39)) (fun x => [])) (Hn := fun x : Unit => [⟨.pointer (some q1), [(Vb a0_0), (Sl (Ki .u32) a0_1), (Vi a0_2)], 74, none⟩]) (fun _ => rfl) rfl rfl) rfl bs_nil (wt_none' rfl) fun ⟨⟩ => ?_
   refine px_nil' ?_
   show TX E K19 _
   refine tx_k' hK19 ?_
   refine cx_cond' rfl (fun h6 => ?_) (fun h6 => ?_)
   ·replace hp := (br_t h6).symm.trans hp
    refine cx_region' ?_
    refine s0 (rd_move' rfl) ?_
    refine s0 (rd_bin' rfl rfl eg_int ru_add) ?_
    refine s0 (rd_assign' rfl) ?_
    refine sx_nil' ?_
    show TX E K17 _
    exact tx_pick' [0] (sub_cons rfl (sub_cons rfl (sub_cons rfl (sub_cons rfl (sub_cons rfl sub_nil))))) (by decide) (pick_cons rfl pick_nil) (hK17 (iadd .u64 r30 1) hp)
   replace hp := (br_f h6).symm.trans hp
   refine cx_skip' ?_
   show TX E K17 _
   exact tx_pick' [0] (sub_cons rfl (sub_cons rfl (sub_cons rfl (sub_cons rfl (sub_cons rfl sub_nil))))) (by decide) (pick_cons rfl pick_nil) (hK17 r30 hp)
  replace hp := (br_f h5).symm.trans hp
  refine cx_exit' ?_
  replace hp := Option.some.inj hp
  subst hp
  show TX E (Zg E (Exit.exit 0) _ (Exit.exit 0)) _
  exact tx_zend' () rfl [0] (sub_cons rfl (sub_cons rfl (sub_cons rfl sub_nil))) (by decide) (pick_cons rfl pick_nil)
 refine zg_out fun w4 => ?_
 show TX E K8 _
 refine tx_k' hK8 ?_
 refine cx_join' (fun (v8 : Int) => (⟨78, [], [(1, (Vp q1)), (4, (Vi (isub .i64 r21 (imin 53 (iadd .i64 (iadd .i64 r13 a0_2) 1074))))), (5, (Vl (.int .u64 v8)))], [⟨.pointer (some q1), [(Vb a0_0), (Sl (Ki .u32) a0_1), (Vi a0_2)], 74, none⟩]⟩ : St)) (fun (v8 : Int) => spec_Dyadic_Float_j6 k a0_2 r21 r13 a0_0 v8 = some out) ?_ ?_
 ·rintro x9 hp
  replace hp : spec_Dyadic_Float_j6 k a0_2 r21 r13 a0_0 x9 = some out := hp
  unfold spec_Dyadic_Float_j6 at hp
  refine cr fun K25 hK25 => ?_
  refine s0 (rd_move' rfl) ?_
  refine s0 (rd_conv' rfl (ru_i2f (by rw [Try.underlying107]; rfl) Try.underlying38)) ?_
  refine s0 (rd_field' (off := 2) rfl Try.underlying74 rfl info3 rfl) ?_
  refine s0 (rd_load' (i := 0) (o := 2) rfl ⟨rfl, rfl, rfl, rfl⟩ rfl flat3) ?_
  refine s0 (rd_move' rfl) ?_
  refine s0 (rd_bin' rfl rfl eg_int ru_add) ?_
  obtain ⟨r71, hr71, hp⟩ := bind_some hp
  refine sx_ox' (ox_calln' (ent_fn' Try.func114 isn114 rfl rfl) (math_Ldexp_sim _ _ hr71 : Sx.Fn Try.prog 114 [(Vg (i2f x9)), (Vi (iadd .i64 a0_2 (isub .i64 r21 (imin 53 (iadd .i64 (iadd .i64 r13 a0_2) 1074)))))] [] (fun x : Unit => (Fl r71)) (fun x => [])) (Hn := fun x : Unit => [⟨.pointer (some q1), [(Vb a0_0), (Sl (Ki .u32) a0_1), (Vi a0_2)], 74, none⟩]) (fun _ => rfl) rfl rfl) (wt_none' rfl) fun ⟨⟩ => ?_
  refine s0 (rd_assign' rfl) ?_
  refine nk hK25 ?_
  refine cx_seq' fun K26 hK26 => ?_
  refine cr fun K27 hK27 => ?_
  refine s0 (rd_field0' rfl Try.underlying74 rfl info72 rfl) ?_
  refine s0 (rd_field0' rfl Try.underlying72 rfl info4 rfl) ?_
  refine s0 (rd_load' (i := 0) (o := 0) rfl ⟨rfl, rfl, rfl, rfl⟩ rfl flat4) ?_
  refine nk hK27 ?_
  refine cx_cond' rfl (fun h11 => ?_) (fun h11 => ?_)
  ·replace hp := (br_t h11).symm.trans hp
   refine cr fun K28 hK28 => ?_
   refine s0 (rd_move' rfl) ?_
   refine s0 (rd_fneg_fl' (fl_f rfl)) ?_
   refine s0 (rd_assign' rfl) ?_
   refine nk hK28 ?_
   refine cx_retc' ?_
   replace hp := Option.some.inj hp
   subst hp
   refine tx_pick' (L' := [(2, (Fl (fneg r71)))]) (H' := []) [] (sub_cons rfl sub_nil) (by decide) pick_nil ?_
   exact tx_ret1' Try.results74 rfl () (rv_tmp' rfl) (List.Sublist.refl _)
  replace hp := (br_f h11).symm.trans hp
  refine cx_skip' ?_
  show TX E K26 _
  refine tx_k' hK26 ?_
  refine cr fun K29 hK29 => ?_
  refine s0 (rd_move' rfl) ?_
  refine s0 (rd_assign' rfl) ?_
  refine nk hK29 ?_
  refine cx_retc' ?_
  replace hp := Option.some.inj hp
  subst hp
  refine tx_pick' (L' := [(2, (Fl r71))]) (H' := []) [] (sub_cons rfl sub_nil) (by decide) pick_nil ?_
  exact tx_ret1' Try.results74 rfl () (rv_tmp' rfl) (List.Sublist.refl _)
 intro K20 hK20
 refine cr fun K21 hK21 => ?_
 refine s0 (rd_move' rfl) ?_
 refine s0 (rd_bin' rfl rfl eg_int ru_gtr) ?_
 refine s0 (rd_move' rfl) ?_
 refine sx_cutn' 6 (fun (v5 : Bool) => (⟨78, [], [(1, (Vp q1)), (4, (Vi (isub .i64 r21 (imin 53 (iadd .i64 (iadd .i64 r13 a0_2) 1074))))), (5, (Vl (.int .u64 v4))), (50, (Vb v5))], [⟨.pointer (some q1), [(Vb a0_0), (Sl (Ki .u32) a0_1), (Vi a0_2)], 74, none⟩]⟩ : St)) (fun (v5 : Bool) => spec_Dyadic_Float_j3 k v4 a0_2 r21 r13 a0_0 a0_1 v5 = some out) ?_ ?_
 ·rintro x6 hp
  replace hp : spec_Dyadic_Float_j3 k v4 a0_2 r21 r13 a0_0 a0_1 x6 = some out := hp
  unfold spec_Dyadic_Float_j3 at hp
  refine s0 (rd_move' rfl) ?_
  refine sx_cutn' 11 (fun (v7 : Bool) => (⟨78, [], [(1, (Vp q1)), (4, (Vi (isub .i64 r21 (imin 53 (iadd .i64 (iadd .i64 r13 a0_2) 1074))))), (5, (Vl (.int .u64 v4))), (62, (Vb v7))], [⟨.pointer (some q1), [(Vb a0_0), (Sl (Ki .u32) a0_1), (Vi a0_2)], 74, none⟩]⟩ : St)) (fun (v7 : Bool) => spec_Dyadic_Float_j5 k a0_2 r21 r13 a0_0 v4 v7 = some out) ?_ ?_
  ·rintro x8 hp
   replace hp : spec_Dyadic_Float_j5 k a0_2 r21 r13 a0_0 v4 x8 = some out := hp
   unfold spec_Dyadic_Float_j5 at hp
   refine nk hK21 ?_
   refine cx_cond' rfl (fun h10 => ?_) (fun h10 => ?_)
   ·replace hp := (br_t h10).symm.trans hp
    refine cx_region' ?_
    refine s0 (rd_move' rfl) ?_
    refine s0 (rd_bin' rfl rfl eg_int ru_add) ?_
    refine s0 (rd_assign' rfl) ?_
    refine sx_nil' ?_
    show TX E K20 _
    exact tx_pick' [0] (sub_cons rfl (sub_cons rfl (sub_cons rfl sub_nil))) (by decide) (pick_cons rfl pick_nil) (hK20 (iadd .u64 v4 1) hp)
   replace hp := (br_f h10).symm.trans hp
   refine cx_skip' ?_
   show TX E K20 _
   exact tx_pick' [0] (sub_cons rfl (sub_cons rfl (sub_cons rfl sub_nil))) (by decide) (pick_cons rfl pick_nil) (hK20 v4 hp)
  intro K24 hK24
  rcases br_cases hp with ⟨h8, hp⟩ | ⟨h8, hp⟩
  ·refine sx_rd' (rd_move' rfl) rfl rfl (wt_is' (wt_guard' rfl rfl rfl) (beq_tt h8)) ?_
   obtain ⟨r53, hr53, hp⟩ := bind_some hp
   refine sx_rd' (rd_bin' rfl rfl eg_int (ru_rem hr53)) rfl rfl (wt_is' (wt_guard' rfl rfl rfl) (beq_tt h8)) ?_
   refine sx_rd' (rd_bin' rfl rfl eg_int ru_eql) rfl rfl (wt_is' (wt_guard' rfl rfl rfl) (beq_tt h8)) ?_
   refine sx_rd' (rd_move' rfl) rfl rfl (wt_is' (wt_guard' rfl rfl rfl) (beq_tt h8)) ?_
   refine sx_cutn' 7 (fun (v6 : Bool) => (⟨78, [], [(1, (Vp q1)), (4, (Vi (isub .i64 r21 (imin 53 (iadd .i64 (iadd .i64 r13 a0_2) 1074))))), (5, (Vl (.int .u64 v4))), (62, (Vb v6))], [⟨.pointer (some q1), [(Vb a0_0), (Sl (Ki .u32) a0_1), (Vi a0_2)], 74, none⟩]⟩ : St)) (fun (v6 : Bool) => spec_Dyadic_Float_j4 k a0_2 r21 r13 a0_0 v4 v6 = some out) ?_ ?_
   ·rintro x7 hp
    replace hp : spec_Dyadic_Float_j4 k a0_2 r21 r13 a0_0 v4 x7 = some out := hp
    unfold spec_Dyadic_Float_j4 at hp
    refine sx_nil' ?_
    show TX E K24 _
    exact tx_pick' [0] (sub_cons rfl (sub_cons rfl (sub_cons rfl (sub_cons rfl sub_nil)))) (by decide) (pick_cons rfl pick_nil) (hK24 x7 hp)
   intro K23 hK23
   rcases br_cases hp with ⟨h9, hp⟩ | ⟨h9, hp⟩
   ·refine sx_skip' rfl rfl (wt_is' (wt_guard' rfl rfl rfl) (beq_tf h9)) ?_
    refine sx_skip' rfl rfl (wt_is' (wt_guard' rfl rfl rfl) (beq_tf h9)) ?_
    refine sx_skip' rfl rfl (wt_is' (wt_guard' rfl rfl rfl) (beq_tf h9)) ?_
    refine sx_skip' rfl rfl (wt_is' (wt_guard' rfl rfl rfl) (beq_tf h9)) ?_
    refine sx_skip' rfl rfl (wt_is' (wt_guard' rfl rfl rfl) (beq_tf h9)) ?_
    refine sx_rd' (rd_pick_true' rfl h9 rfl) rfl rfl (wt_is' (wt_guard' rfl rfl rfl) (beq_tt h8)) ?_
    refine s0 (rd_pick_true' rfl h8 rfl) ?_
    refine sx_nil' ?_
    show TX E K23 _
    exact tx_pick' [0] (sub_cons rfl (sub_cons rfl (sub_cons rfl (sub_cons rfl sub_nil)))) (by decide) (pick_cons rfl pick_nil) (hK23 true hp)
   refine sx_rd' (rd_field0' rfl Try.underlying74 rfl info72 rfl) rfl rfl (wt_is' (wt_guard' rfl rfl rfl) (beq_ff h9)) ?_
   refine sx_rd' (rd_load_agg' (i := 0) (o := 0) (nn := 2) rfl ⟨rfl, rfl, rfl, rfl⟩ rfl agg72 (l' := [(Vb a0_0), (Sl (Ki .u32) a0_1)]) rfl) rfl rfl (wt_is' (wt_guard' rfl rfl rfl) (beq_ff h9)) ?_
   refine sx_rd' (rd_move' rfl) rfl rfl (wt_is' (wt_guard' rfl rfl rfl) (beq_ff h9)) ?_
   refine sx_rd' (rd_bin' rfl rfl eg_int ru_sub) rfl rfl (wt_is' (wt_guard' rfl rfl rfl) (beq_ff h9)) ?_
   obtain ⟨r60, hr60, hp⟩ := bind_some hp
   refine sx_ox' (ox_calln' (ent_fn' Try.func113 isn113 rfl rfl) (spec_Whole_low_sim _ _ _ hr60 : Sx.Fn Try.prog 113 [(Ag [(Vb a0_0), (Sl (Ki .u32) a0_1)]), (Vi (isub .i64 (isub .i64 r21 (imin 53 (iadd .i64 (iadd .i64 r13 a0_2) 1074))) 1))] [] (fun x : Unit => (Vb r60)) (fun x => [])) (Hn := fun x : Unit => [⟨.pointer (some q1), [(Vb a0_0), (Sl (Ki .u32) a0_1), (Vi a0_2)], 74, none⟩]) (fun _ => rfl) rfl rfl) (wt_is' (wt_guard' rfl rfl rfl) (beq_ff h9)) fun ⟨⟩ => ?_
   refine sx_rd' (rd_pick_false' rfl h9 rfl) rfl rfl (wt_is' (wt_guard' rfl rfl rfl) (beq_tt h8)) ?_
   refine s0 (rd_pick_true' rfl h8 rfl) ?_
   refine sx_nil' ?_
   show TX E K23 _
   exact tx_pick' [0] (sub_cons rfl (sub_cons rfl (sub_cons rfl (sub_cons rfl sub_nil)))) (by decide) (pick_cons rfl pick_nil) (hK23 r60 hp)
  refine sx_skip' rfl rfl (wt_is' (wt_guard' rfl rfl rfl) (beq_ft h8)) ?_
  refine sx_skip' rfl rfl (wt_is' (wt_guard' rfl rfl rfl) (beq_ft h8)) ?_
  refine sx_skip' rfl rfl (wt_is' (wt_guard' rfl rfl rfl) (beq_ft h8)) ?_
  refine sx_skip' rfl rfl (wt_is' (wt_guard' rfl rfl rfl) (beq_ft h8)) ?_
  refine sx_skip' rfl rfl (wt_undef' rfl rfl rfl) ?_
  refine sx_skip' rfl rfl (wt_undef' rfl rfl rfl) ?_
  refine sx_skip' rfl rfl (wt_undef' rfl rfl rfl) ?_
  refine sx_skip' rfl rfl (wt_undef' rfl rfl rfl) ?_
  refine sx_skip' rfl rfl (wt_undef' rfl rfl rfl) ?_
  refine sx_skip' rfl rfl (wt_is' (wt_guard' rfl rfl rfl) (beq_ft h8)) ?_
  refine s0 (rd_pick_false' rfl h8 rfl) ?_
  refine sx_nil' ?_
  show TX E K24 _
  exact tx_pick' [0] (sub_cons rfl (sub_cons rfl (sub_cons rfl (sub_cons rfl sub_nil)))) (by decide) (pick_cons rfl pick_nil) (hK24 false hp)
 intro K22 hK22
 rcases br_cases hp with ⟨h7, hp⟩ | ⟨h7, hp⟩
 ·refine sx_rd' (rd_field0' rfl Try.underlying74 rfl info72 rfl) rfl rfl (wt_is' (wt_guard' rfl rfl rfl) (beq_tt h7)) ?_
  refine sx_rd' (rd_load_agg' (i := 0) (o := 0) (nn := 2) rfl ⟨rfl, rfl, rfl, rfl⟩ rfl agg72 (l' := [(Vb a0_0), (Sl (Ki .u32) a0_1)]) rfl) rfl rfl (wt_is' (wt_guard' rfl rfl rfl) (beq_tt h7)) ?_
  refine sx_rd' (rd_move' rfl) rfl rfl (wt_is' (wt_guard' rfl rfl rfl) (beq_tt h7)) ?_
  refine sx_rd' (rd_bin' rfl rfl eg_int ru_sub) rfl rfl (wt_is' (wt_guard' rfl rfl rfl) (beq_tt h7)) ?_
  obtain ⟨r49, hr49, hp⟩ := bind_some hp
  refine sx_ox' (ox_calln' (ent_fn' Try.func112 isn112 rfl rfl) (spec_Whole_bit_sim _ _ _ hr49 : Sx.Fn Try.prog 112 [(Ag [(Vb a0_0), (Sl (Ki .u32) a0_1)]), (Vi (isub .i64 (isub .i64 r21 (imin 53 (iadd .i64 (iadd .i64 r13 a0_2) 1074))) 1))] [] (fun x : Unit => (Vb r49)) (fun x => [])) (Hn := fun x : Unit => [⟨.pointer (some q1), [(Vb a0_0), (Sl (Ki .u32) a0_1), (Vi a0_2)], 74, none⟩]) (fun _ => rfl) rfl rfl) (wt_is' (wt_guard' rfl rfl rfl) (beq_tt h7)) fun ⟨⟩ => ?_
  refine s0 (rd_pick_true' rfl h7 rfl) ?_
  refine sx_nil' ?_
  show TX E K22 _
  exact tx_pick' [0] (sub_cons rfl (sub_cons rfl (sub_cons rfl (sub_cons rfl sub_nil)))) (by decide) (pick_cons rfl pick_nil) (hK22 r49 hp)
 refine sx_skip' rfl rfl (wt_is' (wt_guard' rfl rfl rfl) (beq_ft h7)) ?_
 refine sx_skip' rfl rfl (wt_is' (wt_guard' rfl rfl rfl) (beq_ft h7)) ?_
 refine sx_skip' rfl rfl (wt_is' (wt_guard' rfl rfl rfl) (beq_ft h7)) ?_
 refine sx_skip' rfl rfl (wt_is' (wt_guard' rfl rfl rfl) (beq_ft h7)) ?_
 refine sx_skip' rfl rfl (wt_is' (wt_guard' rfl rfl rfl) (beq_ft h7)) ?_
 refine s0 (rd_pick_false' rfl h7 rfl) ?_
 refine sx_nil' ?_
 show TX E K22 _
 exact tx_pick' [0] (sub_cons rfl (sub_cons rfl (sub_cons rfl (sub_cons rfl sub_nil)))) (by decide) (pick_cons rfl pick_nil) (hK22 false hp)

def math_Sqrt (k : Nat) (a0 : Nat) : Option (Nat) :=
 (some (gsqrt a0)) >>= fun r4 =>
 some r4

theorem math_Sqrt_sim {k : Nat}  (a0 : Nat) {out : Nat} (hp : math_Sqrt k a0 = some out) : Sx.Fn Try.prog 73 [(Vg a0)] [] (fun w : Unit => (Fl out)) (fun w => []) := by
 unfold math_Sqrt at hp
 refine fn_of Try.func73 rfl Try.ntmps73 rfl fun E hM => ?_
 refine cr fun K1 hK1 => ?_
 refine s0 (rd_assign' rfl) ?_
 refine nk hK1 ?_
 refine cr fun K2 hK2 => ?_
 refine s0 (rd_move' rfl) ?_
 obtain ⟨r4, hr4, hp⟩ := bind_some hp
 refine sx_ox' (ox_extf' rfl (fl_v rfl) Try.func110 (extf110 (Option.some.inj hr4)) rfl rfl) (wt_none' rfl) fun _ => ?_
 refine s0 (rd_assign' rfl) ?_
 refine nk hK2 ?_
 refine cx_retc' ?_
 replace hp := Option.some.inj hp
 subst hp
 refine tx_pick' (L' := [(2, (Fl r4))]) (H' := []) [] (sub_cons rfl sub_nil) (by decide) pick_nil ?_
 exact tx_ret1' Try.results73 rfl () (rv_tmp' rfl) (List.Sublist.refl _)

def laws_rootOf (k : Nat) (a0_0 : Bool) (a0_1 : List Int) (a0_2 : Int) (a0_3 : Bool) (a0_4 : List Int) (a0_5 : Int) : Option (Nat) :=
 (spec_Dyadic_Float k a0_0 a0_1 a0_2) >>= fun r5 =>
 (spec_Dyadic_Float k a0_3 a0_4 a0_5) >>= fun r8 =>
 (num r5) >>= fun u1 =>
 (num r8) >>= fun u2 =>
 (fdiv r5 r8) >>= fun r9 =>
 (math_Sqrt k r9) >>= fun r10 =>
 some r10

theorem laws_rootOf_sim {k : Nat}  (a0_0 : Bool) (a0_1 : List Int) (a0_2 : Int) (a0_3 : Bool) (a0_4 : List Int) (a0_5 : Int) {out : Nat} (hp : laws_rootOf k a0_0 a0_1 a0_2 a0_3 a0_4 a0_5 = some out) : Sx.Fn Try.prog 36 [(Ag [(Vb a0_0), (Sl (Ki .u32) a0_1), (Vi a0_2), (Vb a0_3), (Sl (Ki .u32) a0_4), (Vi a0_5)])] [] (fun w : Unit => (Fl out)) (fun w => []) := by
 unfold laws_rootOf at hp
 refine fn_of Try.func36 rfl Try.ntmps36 rfl fun E hM => ?_
 refine cr fun K1 hK1 => ?_
 refine sx_ox' (ox_box' rfl (lv_ag _) rfl rfl) (wt_none' rfl) fun q1 => ?_
 refine s0 (rd_assign' rfl) ?_
 refine nk hK1 ?_
 refine cx_seq' fun K2 hK2 => ?_
 refine cx_plan' [] [] [(0, 1), (1, 1), (3, 1), (4, 1), (2, 0), (5, 0), (6, 1), (7, 0), (8, 1)] mixed (by kernel_rfl) ?_
 refine px_rd' rfl (rd_field0' rfl Try.underlying76 rfl info74 rfl) rfl rfl (wt_none' rfl) ?_
 refine px_rd' rfl (rd_load_agg' (i := 0) (o := 0) (nn := 3) rfl ⟨rfl, rfl, rfl, rfl⟩ rfl agg74 (l' := [(Vb a0_0), (Sl (Ki .u32) a0_1), (Vi a0_2)]) rfl) rfl rfl (wt_none' rfl) ?_
 refine px_rd' rfl (rd_field' (off := 3) rfl Try.underlying76 rfl info74 rfl) rfl rfl (wt_none' rfl) ?_
 refine px_rd' rfl (rd_load_agg' (i := 0) (o := 3) (nn := 3) rfl ⟨rfl, rfl, rfl, rfl⟩ rfl agg74 (l' := [(Vb a0_3), (Sl (Ki .u32) a0_4), (Vi a0_5)]) rfl) rfl rfl (wt_none' rfl) ?_
 obtain ⟨r5, hr5, hp⟩ := bind_some hp
 refine px_ox' rfl (ox_calln' (ent_fn' Try.func74 isn74 rfl rfl) (spec_Dyadic_Float_sim _ _ _ hr5 : Sx.Fn Try.prog 74 [(Ag [(Vb a0_0), (Sl (Ki .u32) a0_1), (Vi a0_2)])] [] (fun x : Unit => (Fl r5)) (fun x => [])) (Hn := fun x : Unit => [⟨.pointer (some q1), [(Vb a0_0), (Sl (Ki .u32) a0_1), (Vi a0_2), (Vb a0_3), (Sl (Ki .u32) a0_4), (Vi a0_5)], 76, none⟩]) (fun _ => rfl) rfl rfl) rfl bs_nil (wt_none' rfl) fun ⟨⟩ => ?_
 obtain ⟨r8, hr8, hp⟩ := bind_some hp
 refine px_ox' rfl (ox_calln' (ent_fn' Try.func74 isn74 rfl rfl) (spec_Dyadic_Float_sim _ _ _ hr8 : Sx.Fn Try.prog 74 [(Ag [(Vb a0_3), (Sl (Ki .u32) a0_4), (Vi a0_5)])] [] (fun x : Unit => (Fl r8)) (fun x => [])) (Hn := fun x : Unit => [⟨.pointer (some q1), [(Vb a0_0), (Sl (Ki .u32) a0_1), (Vi a0_2), (Vb a0_3), (Sl (Ki .u32) a0_4), (Vi a0_5)], 76, none⟩]) (fun _ => rfl) rfl rfl) rfl bs_nil (wt_none' rfl) fun ⟨⟩ => ?_
 obtain ⟨u1, hu1, hp⟩ := bind_some hp
 refine tx_slot' 5 (y := (Vg r5)) rfl (imp_num (num_some hu1).2) ?_
 obtain ⟨u2, hu2, hp⟩ := bind_some hp
 refine tx_slot' 8 (y := (Vg r8)) rfl (imp_num (num_some hu2).2) ?_
 obtain ⟨r9, hr9, hp⟩ := bind_some hp
 refine px_rd' rfl (rd_bin' rfl rfl eg_flt (ru_fdiv hr9)) rfl rfl (wt_none' rfl) ?_
 obtain ⟨r10, hr10, hp⟩ := bind_some hp
 refine px_ox' rfl (ox_calln' (ent_fn' Try.func73 isn73 rfl rfl) (math_Sqrt_sim _ hr10 : Sx.Fn Try.prog 73 [(Vg r9)] [] (fun x : Unit => (Fl r10)) (fun x => [])) (Hn := fun x : Unit => [⟨.pointer (some q1), [(Vb a0_0), (Sl (Ki .u32) a0_1), (Vi a0_2), (Vb a0_3), (Sl (Ki .u32) a0_4), (Vi a0_5)], 76, none⟩]) (fun _ => rfl) rfl rfl) rfl bs_nil (wt_none' rfl) fun ⟨⟩ => ?_
 refine px_rd' rfl (rd_assign' rfl) rfl rfl (wt_none' rfl) ?_
 refine px_nil' ?_
 show TX E K2 _
 refine tx_k' hK2 ?_
 refine cx_retc' ?_
 replace hp := Option.some.inj hp
 subst hp
 refine tx_pick' (L' := [(2, (Fl r10))]) (H' := []) [] (sub_cons rfl sub_nil) (by decide) pick_nil ?_
 exact tx_ret1' Try.results36 rfl () (rv_tmp' rfl) (List.Sublist.refl _)

def laws_FnSimplifyNear_l2s (r97 : (List (Bool × (List Int) × Int × Bool × (List Int) × Int))) (a1 : Nat) (k : Nat) (rec2 : Int → Option (Unit ⊕ Unit)) (x8 : Int) : Option (Unit ⊕ Unit) :=
 br (decide (x8 < (r97.length : Int)))
  ((idx r97 x8) >>= fun r101 =>
  (laws_rootOf k r101.1 r101.2.1 r101.2.2.1 r101.2.2.2.1 r101.2.2.2.2.1 r101.2.2.2.2.2) >>= fun r104 =>
  (some (gadd a1 4517110426252607488)) >>= fun r106 =>
  br (fgt r104 r106)
   (some (.inl ()))
   (rec2 (iadd .i64 x8 1)))
  (some (.inr ()))
def laws_FnSimplifyNear_l2 (r97 : (List (Bool × (List Int) × Int × Bool × (List Int) × Int))) (a1 : Nat) : Nat → Int → Option (Unit ⊕ Unit)
 | 0, _ => none
 | k + 1, v => laws_FnSimplifyNear_l2s r97 a1 k (laws_FnSimplifyNear_l2 r97 a1 k) v
def laws_FnSimplifyNear_l3s (r43 : (List Int) × Bool) (r20 : (List (Bool × (List Int) × Int × Bool × (List Int) × Int)) × Bool) (a1 : Nat) (k : Nat) (rec3 : Int → Option (Unit ⊕ Unit)) (x9 : Int) : Option (Unit ⊕ Unit) :=
 br (decide (x9 < (r43.1.length : Int)))
  ((idx r43.1 x9) >>= fun r79 =>
  (idx r43.1 (isub .i64 x9 1)) >>= fun r84 =>
  br (decide (r79 ≤ r84))
   (some (.inl ()))
   ((idx r43.1 (isub .i64 x9 1)) >>= fun r91 =>
   (idx r43.1 x9) >>= fun r95 =>
   (spec_Squares k r20.1 r91 r95) >>= fun r97 =>
   (laws_FnSimplifyNear_l2 r97 a1 k 0) >>= fun y2 => match y2 with
    | (.inl v12) =>
     (some (.inl ()))
    | (.inr v13) =>
     (rec3 (iadd .i64 x9 1))))
  (some (.inr ()))
def laws_FnSimplifyNear_l3 (r43 : (List Int) × Bool) (r20 : (List (Bool × (List Int) × Int × Bool × (List Int) × Int)) × Bool) (a1 : Nat) : Nat → Int → Option (Unit ⊕ Unit)
 | 0, _ => none
 | k + 1, v => laws_FnSimplifyNear_l3s r43 r20 a1 k (laws_FnSimplifyNear_l3 r43 r20 a1 k) v
def laws_FnSimplifyNear_j6 (k : Nat) (r43 : (List Int) × Bool) (r20 : (List (Bool × (List Int) × Int × Bool × (List Int) × Int)) × Bool) (a1 : Nat) (x6 : Bool) : Option (Bool) :=
 br x6
  (some false)
  ((laws_FnSimplifyNear_l3 r43 r20 a1 k 1) >>= fun y3 => match y3 with
   | (.inl v14) =>
    (some false)
   | (.inr v15) =>
    (some true))
def laws_FnSimplifyNear_j5 (k : Nat) (r43 : (List Int) × Bool) (r20 : (List (Bool × (List Int) × Int × Bool × (List Int) × Int)) × Bool) (a1 : Nat) (x5 : Bool) : Option (Bool) :=
 br x5
  (laws_FnSimplifyNear_j6 k r43 r20 a1 true)
  ((idx r43.1 (isub .i64 (r43.1.length : Int) 1)) >>= fun r64 =>
  laws_FnSimplifyNear_j6 k r43 r20 a1 (!decide (r64 = (isub .i64 (r20.1.length : Int) 1))))
def laws_FnSimplifyNear_j4 (k : Nat) (r43 : (List Int) × Bool) (r20 : (List (Bool × (List Int) × Int × Bool × (List Int) × Int)) × Bool) (a1 : Nat) (x4 : Bool) : Option (Bool) :=
 br x4
  (laws_FnSimplifyNear_j5 k r43 r20 a1 true)
  ((idx r43.1 0) >>= fun r55 =>
  laws_FnSimplifyNear_j5 k r43 r20 a1 (!decide (r55 = 0)))
def laws_FnSimplifyNear_j3 (k : Nat) (a0 : List Nat) (a1 : Nat) (a2 : Int) (r20 : (List (Bool × (List Int) × Int × Bool × (List Int) × Int)) × Bool) (x3 : Bool) : Option (Bool) :=
 br x3
  (some true)
  ((impl_Simplify k a0 a1 a2) >>= fun r43 =>
  br (!r43.2)
   (laws_FnSimplifyNear_j4 k r43 r20 a1 true)
   (laws_FnSimplifyNear_j4 k r43 r20 a1 (decide ((r43.1.length : Int) < 2))))
def laws_FnSimplifyNear_j2 (k : Nat) (a0 : List Nat) (a1 : Nat) (a2 : Int) (r20 : (List (Bool × (List Int) × Int × Bool × (List Int) × Int)) × Bool) (x2 : Bool) : Option (Bool) :=
 laws_FnSimplifyNear_j3 k a0 a1 a2 r20 x2
def laws_FnSimplifyNear_j1 (k : Nat) (a0 : List Nat) (a1 : Nat) (a2 : Int) (r20 : (List (Bool × (List Int) × Int × Bool × (List Int) × Int)) × Bool) (x1 : Bool) : Option (Bool) :=
 br x1
  (laws_FnSimplifyNear_j3 k a0 a1 a2 r20 true)
  (br (fge a1 0)
   (laws_FnSimplifyNear_j2 k a0 a1 a2 r20 (!(fle a1 4670232813583204352)))
   (laws_FnSimplifyNear_j2 k a0 a1 a2 r20 (!false)))
def laws_FnSimplifyNear (k : Nat) (a0 : List Nat) (a1 : Nat) (a2 : Int) : Option (Bool) :=
 br (decide (2147483647 < (a0.length : Int)))
  (some true)
  ((laws_flatPoints k a2 a0) >>= fun r20 =>
  br (!r20.2)
   (laws_FnSimplifyNear_j1 k a0 a1 a2 r20 true)
   (laws_FnSimplifyNear_j1 k a0 a1 a2 r20 (decide ((r20.1.length : Int) < 3))))

theorem laws_FnSimplifyNear_sim {k : Nat}  (a0 : List Nat) (a1 : Nat) (a2 : Int) {out : Bool} (hp : laws_FnSimplifyNear k a0 a1 a2 = some out) : Sx.Fn Try.prog 7 [(Sl Kf a0), (Vg a1), (Vi a2)] [] (fun w : Unit => (Vb out)) (fun w => []) := by
 unfold laws_FnSimplifyNear at hp
 refine fn_of Try.func7 rfl Try.ntmps7 rfl fun E hM => ?_
 refine cr fun K1 hK1 => ?_
 refine s0 (rd_assign' rfl) ?_
 refine nk hK1 ?_
 refine cx_seq' fun K2 hK2 => ?_
 refine cr fun K3 hK3 => ?_
 refine s0 (rd_move' rfl) ?_
 refine s0 (rd_len' rfl Try.underlying22) ?_
 refine s0 (rd_bin' rfl rfl eg_int ru_gtr) ?_
 refine nk hK3 ?_
 refine cx_cond' rfl (fun h1 => ?_) (fun h1 => ?_)
 ·replace hp := (br_t h1).symm.trans hp
  refine cr fun K4 hK4 => ?_
  refine s0 (rd_assign' rfl) ?_
  refine nk hK4 ?_
  refine cx_retc' ?_
  replace hp := Option.some.inj hp
  subst hp
  refine tx_pick' (L' := [(6, (Vb true))]) (H' := []) [] (sub_cons rfl sub_nil) (by decide) pick_nil ?_
  exact tx_ret1' Try.results7 rfl () (rv_tmp' rfl) (List.Sublist.refl _)
 replace hp := (br_f h1).symm.trans hp
 refine cx_skip' ?_
 show TX E K2 _
 refine tx_k' hK2 ?_
 refine cr fun K5 hK5 => ?_
 refine s0 (rd_move' rfl) ?_
 refine s0 (rd_move' rfl) ?_
 obtain ⟨r20, hr20, hp⟩ := bind_some hp
 refine sx_ox' (ox_calln' (ent_fn' Try.func33 isn33 rfl rfl) (laws_flatPoints_sim _ _ hr20 : Sx.Fn Try.prog 33 [(Vi a2), (Sl Kf a0)] [] (fun x : Unit => (Tu [(Sl KT96 r20.1), (Vb r20.2)])) (fun x => [])) (Hn := fun x : Unit => []) (fun _ => rfl) rfl rfl) (wt_none' rfl) fun ⟨⟩ => ?_
 refine s0 (rd_move' rfl) ?_
 refine s0 (rd_extract' rfl rfl) ?_
 refine s0 (rd_extract' rfl rfl) ?_
 refine s0 (rd_assign' rfl) ?_
 refine s0 (rd_assign' rfl) ?_
 refine nk hK5 ?_
 refine cx_seq' fun K6 hK6 => ?_
 refine cr fun K7 hK7 => ?_
 refine s0 (rd_move' rfl) ?_
 refine s0 (rd_un' rfl ru_not) ?_
 refine s0 (rd_move' rfl) ?_
 refine sx_cutn' 4 (fun (v1 : Bool) => (⟨109, [], [(0, (Sl Kf a0)), (1, (Vg a1)), (2, (Vi a2)), (7, (Sl KT96 r20.1)), (29, (Vb v1))], []⟩ : St)) (fun (v1 : Bool) => laws_FnSimplifyNear_j1 k a0 a1 a2 r20 v1 = some out) ?_ ?_
 ·rintro x1 hp
  replace hp : laws_FnSimplifyNear_j1 k a0 a1 a2 r20 x1 = some out := hp
  unfold laws_FnSimplifyNear_j1 at hp
  refine s0 (rd_move' rfl) ?_
  refine sx_cutn' 8 (fun (v3 : Bool) => (⟨109, [], [(0, (Sl Kf a0)), (1, (Vg a1)), (2, (Vi a2)), (7, (Sl KT96 r20.1)), (38, (Vb v3))], []⟩ : St)) (fun (v3 : Bool) => laws_FnSimplifyNear_j3 k a0 a1 a2 r20 v3 = some out) ?_ ?_
  ·rintro x3 hp
   replace hp : laws_FnSimplifyNear_j3 k a0 a1 a2 r20 x3 = some out := hp
   unfold laws_FnSimplifyNear_j3 at hp
   refine nk hK7 ?_
   refine cx_cond' rfl (fun h5 => ?_) (fun h5 => ?_)
   ·replace hp := (br_t h5).symm.trans hp
    refine cr fun K11 hK11 => ?_
    refine s0 (rd_assign' rfl) ?_
    refine nk hK11 ?_
    refine cx_retc' ?_
    replace hp := Option.some.inj hp
    subst hp
    refine tx_pick' (L' := [(6, (Vb true))]) (H' := []) [] (sub_cons rfl sub_nil) (by decide) pick_nil ?_
    exact tx_ret1' Try.results7 rfl () (rv_tmp' rfl) (List.Sublist.refl _)
   replace hp := (br_f h5).symm.trans hp
   refine cx_skip' ?_
   show TX E K6 _
   refine tx_k' hK6 ?_
   refine cr fun K12 hK12 => ?_
   refine s0 (rd_move' rfl) ?_
   refine s0 (rd_move' rfl) ?_
   refine s0 (rd_move' rfl) ?_
   obtain ⟨r43, hr43, hp⟩ := bind_some hp
   refine sx_ox' (ox_calln' (ent_fn' Try.func34 isn34 rfl rfl) (impl_Simplify_sim _ _ _ hr43 : Sx.Fn Try.prog 34 [(Sl Kf a0), (Vg a1), (Vi a2)] [] (fun x : Unit => (Tu [(Sl (Ki .i64) r43.1), (Vb r43.2)])) (fun x => [])) (Hn := fun x : Unit => []) (fun _ => rfl) rfl rfl) (wt_none' rfl) fun ⟨⟩ => ?_
   refine s0 (rd_move' rfl) ?_
   refine s0 (rd_extract' rfl rfl) ?_
   refine s0 (rd_extract' rfl rfl) ?_
   refine s0 (rd_assign' rfl) ?_
   refine s0 (rd_assign' rfl) ?_
   refine nk hK12 ?_
   refine cx_seq' fun K13 hK13 => ?_
   refine cr fun K14 hK14 => ?_
   refine s0 (rd_move' rfl) ?_
   refine s0 (rd_un' rfl ru_not) ?_
   refine s0 (rd_move' rfl) ?_
   refine sx_cutn' 4 (fun (v4 : Bool) => (⟨109, [], [(1, (Vg a1)), (7, (Sl KT96 r20.1)), (9, (Sl (Ki .i64) r43.1)), (52, (Vb v4))], []⟩ : St)) (fun (v4 : Bool) => laws_FnSimplifyNear_j4 k r43 r20 a1 v4 = some out) ?_ ?_
   ·rintro x4 hp
    replace hp : laws_FnSimplifyNear_j4 k r43 r20 a1 x4 = some out := hp
    unfold laws_FnSimplifyNear_j4 at hp
    refine s0 (rd_move' rfl) ?_
    refine sx_cutn' 5 (fun (v5 : Bool) => (⟨109, [], [(1, (Vg a1)), (7, (Sl KT96 r20.1)), (9, (Sl (Ki .i64) r43.1)), (58, (Vb v5))], []⟩ : St)) (fun (v5 : Bool) => laws_FnSimplifyNear_j5 k r43 r20 a1 v5 = some out) ?_ ?_
    ·rintro x5 hp
     replace hp : laws_FnSimplifyNear_j5 k r43 r20 a1 x5 = some out := hp
     unfold laws_FnSimplifyNear_j5 at hp
     refine s0 (rd_move' rfl) ?_
     refine sx_cutn' 11 (fun (v6 : Bool) => (⟨109, [], [(1, (Vg a1)), (7, (Sl KT96 r20.1)), (9, (Sl (Ki .i64) r43.1)), (70, (Vb v6))], []⟩ : St)) (fun (v6 : Bool) => laws_FnSimplifyNear_j6 k r43 r20 a1 v6 = some out) ?_ ?_
     ·rintro x6 hp
      replace hp : laws_FnSimplifyNear_j6 k r43 r20 a1 x6 = some out := hp
      unfold laws_FnSimplifyNear_j6 at hp
      refine nk hK14 ?_
      refine cx_cond' rfl (fun h9 => ?_) (fun h9 => ?_)
      ·replace hp := (br_t h9).symm.trans hp
       refine cr fun K18 hK18 => ?_
       refine s0 (rd_assign' rfl) ?_
       refine nk hK18 ?_
       refine cx_retc' ?_
       replace hp := Option.some.inj hp
       subst hp
       refine tx_pick' (L' := [(6, (Vb false))]) (H' := []) [] (sub_cons rfl sub_nil) (by decide) pick_nil ?_
       exact tx_ret1' Try.results7 rfl () (rv_tmp' rfl) (List.Sublist.refl _)
      replace hp := (br_f h9).symm.trans hp
      refine cx_skip' ?_
      show TX E K13 _
      refine tx_k' hK13 ?_
      refine cx_seq' fun K19 hK19 => ?_
      refine cr fun K20 hK20 => ?_
      refine s0 (rd_assign' rfl) ?_
      refine nk hK20 ?_
      refine cx_block' ?_
      obtain ⟨y3, hy3, hp⟩ := bind_some hp
      refine cx_loopg' (F := laws_FnSimplifyNear_l3 r43 r20 a1) (G := fun k R v => laws_FnSimplifyNear_l3s r43 r20 a1 k R v) (x := 1) (gh := ()) (fun (v10 : Int) (w10 : Unit) => (⟨109, [], [(1, (Vg a1)), (7, (Sl KT96 r20.1)), (9, (Sl (Ki .i64) r43.1)), (11, (Vi v10))], []⟩ : St)) (fun (y : Unit ⊕ Unit) => match y with | (.inl v14) => Zg E Exit.ret (fun (w14 : Unit) => (⟨109, [], [(6, (Vb false))], []⟩ : St)) | (.inr v15) => Zg E (Exit.exit 0) (fun (w15 : Unit) => (⟨109, [], [], []⟩ : St))) (fun _ => rfl) (fun _ _ => rfl) ?_ hy3 (tx_to' rfl [] (sub_cons rfl (sub_cons rfl (sub_cons rfl (sub_cons rfl sub_nil)))) (by decide) pick_nil) ?_
      ·clear hp hy3
       clear y3
       intro k rec3 KY3 ih3
       rintro x9 ⟨⟩ y3 hp
       replace hp : laws_FnSimplifyNear_l3s r43 r20 a1 k rec3 x9 = some y3 := hp
       unfold laws_FnSimplifyNear_l3s at hp
       refine cx_seq' fun K40 hK40 => ?_
       refine cr fun K41 hK41 => ?_
       refine s0 (rd_move' rfl) ?_
       refine s0 (rd_move' rfl) ?_
       refine s0 (rd_len' rfl Try.underlying34) ?_
       refine s0 (rd_bin' rfl rfl eg_int ru_lss) ?_
       refine nk hK41 ?_
       refine cx_cond' rfl (fun h18 => ?_) (fun h18 => ?_)
       ·replace hp := (br_t h18).symm.trans hp
        refine cx_skip' ?_
        show TX E K40 _
        refine tx_k' hK40 ?_
        refine cx_seq' fun K42 hK42 => ?_
        refine cx_block' ?_
        refine cx_seq' fun K43 hK43 => ?_
        refine cx_seq' fun K44 hK44 => ?_
        refine cx_draw' mixed (by kernel_rfl) ?_
        refine qx_rd' (rd_move' rfl) rfl rfl (wt_none' rfl) ?_
        refine qx_rd' (rd_move' rfl) rfl rfl (wt_none' rfl) ?_
        obtain ⟨r79, hr79, hp⟩ := bind_some hp
        refine qx_rd' (rd_at' (K := (Ki .i64)) rfl rfl hr79 Try.underlying34 info3) rfl rfl (wt_none' rfl) ?_
        refine qx_rd' (rd_load_pt' rfl rfl flat3) rfl rfl (wt_none' rfl) ?_
        refine qx_rd' (rd_move' rfl) rfl rfl (wt_none' rfl) ?_
        refine qx_rd' (rd_move' rfl) rfl rfl (wt_none' rfl) ?_
        refine qx_rd' (rd_bin' rfl rfl eg_int ru_sub) rfl rfl (wt_none' rfl) ?_
        obtain ⟨r84, hr84, hp⟩ := bind_some hp
        refine qx_rd' (rd_at' (K := (Ki .i64)) rfl rfl hr84 Try.underlying34 info3) rfl rfl (wt_none' rfl) ?_
        refine qx_rd' (rd_load_pt' rfl rfl flat3) rfl rfl (wt_none' rfl) ?_
        refine qx_rd' (rd_bin' rfl rfl eg_int ru_leq) rfl rfl (wt_none' rfl) ?_
        refine qx_nil' ?_
        show TX E K44 _
        refine tx_k' hK44 ?_
        refine cx_cond' rfl (fun h19 => ?_) (fun h19 => ?_)
        ·replace hp := (br_t h19).symm.trans hp
         refine cr fun K45 hK45 => ?_
         refine s0 (rd_assign' rfl) ?_
         refine nk hK45 ?_
         refine cx_retc' ?_
         replace hp := Option.some.inj hp
         subst hp
         show TX E (Zg E Exit.ret _ Exit.ret) _
         exact tx_zend' () rfl [] (sub_cons rfl sub_nil) (by decide) pick_nil
        replace hp := (br_f h19).symm.trans hp
        refine cx_skip' ?_
        show TX E K43 _
        refine tx_k' hK43 ?_
        refine cx_seq' fun K46 hK46 => ?_
        refine cx_plan' [] [] [(0, 1), (1, 1), (2, 1), (3, 1), (4, 1), (5, 1), (6, 1), (7, 1), (8, 1), (9, 1), (12, 1), (10, 0), (11, 1)] mixed (by kernel_rfl) ?_
        refine px_rd' rfl (rd_move' rfl) rfl rfl (wt_none' rfl) ?_
        refine px_rd' rfl (rd_move' rfl) rfl rfl (wt_none' rfl) ?_
        refine px_rd' rfl (rd_move' rfl) rfl rfl (wt_none' rfl) ?_
        refine px_rd' rfl (rd_bin' rfl rfl eg_int ru_sub) rfl rfl (wt_none' rfl) ?_
        obtain ⟨r91, hr91, hp⟩ := bind_some hp
        refine px_rd' rfl (rd_at' (K := (Ki .i64)) rfl rfl hr91 Try.underlying34 info3) rfl rfl (wt_none' rfl) ?_
        refine px_rd' rfl (rd_load_pt' rfl rfl flat3) rfl rfl (wt_none' rfl) ?_
        refine px_rd' rfl (rd_move' rfl) rfl rfl (wt_none' rfl) ?_
        refine px_rd' rfl (rd_move' rfl) rfl rfl (wt_none' rfl) ?_
        obtain ⟨r95, hr95, hp⟩ := bind_some hp
        refine px_rd' rfl (rd_at' (K := (Ki .i64)) rfl rfl hr95 Try.underlying34 info3) rfl rfl (wt_none' rfl) ?_
        refine px_rd' rfl (rd_load_pt' rfl rfl flat3) rfl rfl (wt_none' rfl) ?_
        refine px_rd' rfl (rd_move' rfl) rfl rfl (wt_none' rfl) ?_
        obtain ⟨r97, hr97, hp⟩ := bind_some hp
        refine px_ox' rfl (ox_calln' (ent_fn' Try.func35 isn35 rfl rfl) (spec_Squares_sim _ _ _ hr97 : Sx.Fn Try.prog 35 [(Sl KT96 r20.1), (Vi r91), (Vi r95)] [] (fun x : Unit => (Sl KT76 r97)) (fun x => [])) (Hn := fun x : Unit => []) (fun _ => rfl) rfl rfl) rfl bs_nil (wt_none' rfl) fun ⟨⟩ => ?_
        refine px_rd' rfl (rd_len' rfl Try.underlying68) rfl rfl (wt_none' rfl) ?_
        refine px_nil' ?_
        show TX E K46 _
        refine tx_k' hK46 ?_
        refine cx_block' ?_
        obtain ⟨y2, hy2, hp⟩ := bind_some hp
        refine cx_loopg' (F := laws_FnSimplifyNear_l2 r97 a1) (G := fun k R v => laws_FnSimplifyNear_l2s r97 a1 k R v) (x := 0) (gh := ()) (fun (v11 : Int) (w11 : Unit) => (⟨109, [], [(1, (Vg a1)), (7, (Sl KT96 r20.1)), (9, (Sl (Ki .i64) r43.1)), (11, (Vi x9)), (97, (Sl KT76 r97)), (98, (Vi (r97.length : Int))), (99, (Vi v11))], []⟩ : St)) (fun (y : Unit ⊕ Unit) => match y with | (.inl v12) => Zg E Exit.ret (fun (w12 : Unit) => (⟨109, [], [(6, (Vb false))], []⟩ : St)) | (.inr v13) => Zg E (Exit.exit 2) (fun (w13 : Unit) => (⟨109, [], [(1, (Vg a1)), (7, (Sl KT96 r20.1)), (9, (Sl (Ki .i64) r43.1)), (11, (Vi x9))], []⟩ : St))) (fun _ => rfl) (fun _ _ => rfl) ?_ hy2 (tx_to' rfl [] (sub_cons rfl (sub_cons rfl (sub_cons rfl (sub_cons rfl (sub_cons rfl (sub_cons rfl (sub_cons rfl sub_nil))))))) (by decide) pick_nil) ?_
        ·clear hp hy2
         clear y2
         intro k rec2 KY2 ih2
         rintro x8 ⟨⟩ y2 hp
         replace hp : laws_FnSimplifyNear_l2s r97 a1 k rec2 x8 = some y2 := hp
         unfold laws_FnSimplifyNear_l2s at hp
         refine cr fun K53 hK53 => ?_
         refine s0 (rd_bin' rfl rfl eg_int ru_lss) ?_
         refine nk hK53 ?_
         refine cx_seq' fun K54 hK54 => ?_
         refine cx_cond' rfl (fun h23 => ?_) (fun h23 => ?_)
         ·replace hp := (br_t h23).symm.trans hp
          refine cx_skip' ?_
          show TX E K54 _
          refine tx_k' hK54 ?_
          refine cx_seq' fun K55 hK55 => ?_
          refine cx_block' ?_
          refine cr fun K56 hK56 => ?_
          obtain ⟨r101, hr101, hp⟩ := bind_some hp
          refine s0 (rd_at' (K := KT76) rfl rfl hr101 Try.underlying68 info76) ?_
          refine s0 (rd_load_pt_agg' (nn := 6) rfl rfl agg76 (l' := [(Vb r101.1), (Sl (Ki .u32) r101.2.1), (Vi r101.2.2.1), (Vb r101.2.2.2.1), (Sl (Ki .u32) r101.2.2.2.2.1), (Vi r101.2.2.2.2.2)]) rfl) ?_
          refine sx_ox' (ox_alloc' info76 rfl rfl rfl rfl (l := [(Vb false), Vn, (Vi 0), (Vb false), Vn, (Vi 0)]) rfl) (wt_none' rfl) fun q13 => ?_
          refine sx_ox' (ox_store' (i := 0) (o := 0) rfl rfl (lv_ag _) ⟨rfl, rfl, rfl, rfl⟩ rfl info76 rfl (H' := [⟨.pointer (some q13), [(Vb r101.1), (Sl (Ki .u32) r101.2.1), (Vi r101.2.2.1), (Vb r101.2.2.2.1), (Sl (Ki .u32) r101.2.2.2.2.1), (Vi r101.2.2.2.2.2)], 76, none⟩]) rfl) (wt_none' rfl) fun _ => ?_
          refine nk hK56 ?_
          refine cr fun K57 hK57 => ?_
          refine s0 (rd_load_agg' (i := 0) (o := 0) (nn := 6) rfl ⟨rfl, rfl, rfl, rfl⟩ rfl agg76 (l' := [(Vb r101.1), (Sl (Ki .u32) r101.2.1), (Vi r101.2.2.1), (Vb r101.2.2.2.1), (Sl (Ki .u32) r101.2.2.2.2.1), (Vi r101.2.2.2.2.2)]) rfl) ?_
          obtain ⟨r104, hr104, hp⟩ := bind_some hp
          refine sx_ox' (ox_calln' (ent_fn' Try.func36 isn36 rfl rfl) (laws_rootOf_sim _ _ _ _ _ _ hr104 : Sx.Fn Try.prog 36 [(Ag [(Vb r101.1), (Sl (Ki .u32) r101.2.1), (Vi r101.2.2.1), (Vb r101.2.2.2.1), (Sl (Ki .u32) r101.2.2.2.2.1), (Vi r101.2.2.2.2.2)])] [] (fun x : Unit => (Fl r104)) (fun x => [])) (Hn := fun x : Unit => [⟨.pointer (some q13), [(Vb r101.1), (Sl (Ki .u32) r101.2.1), (Vi r101.2.2.1), (Vb r101.2.2.2.1), (Sl (Ki .u32) r101.2.2.2.2.1), (Vi r101.2.2.2.2.2)], 76, none⟩]) (fun _ => rfl) rfl rfl) (wt_none' rfl) fun ⟨⟩ => ?_
          refine s0 (rd_move' rfl) ?_
          obtain ⟨r106, hr106, hp⟩ := bind_some hp
          refine sx_ox' (ox_fop' (.inl rfl) (fl_v rfl) (fl_v rfl) (Option.some.inj hr106) rfl rfl) (wt_none' rfl) fun _ => ?_
          refine s0 (rd_fcmp' (fl_f rfl) (fl_f rfl) rfl) ?_
          refine nk hK57 ?_
          refine cx_cond' rfl (fun h24 => ?_) (fun h24 => ?_)
          ·replace hp := (br_t h24).symm.trans hp
           refine cr fun K58 hK58 => ?_
           refine s0 (rd_assign' rfl) ?_
           refine nk hK58 ?_
           refine cx_retc' ?_
           replace hp := Option.some.inj hp
           subst hp
           show TX E (Zg E Exit.ret _ Exit.ret) _
           exact tx_zend' () rfl [] (sub_cons rfl sub_nil) (by decide) pick_nil
          replace hp := (br_f h24).symm.trans hp
          refine cx_skip' ?_
          show TX E K55 _
          refine tx_k' hK55 ?_
          refine cx_region' ?_
          refine s0 (rd_bin' rfl rfl eg_int ru_add) ?_
          refine s0 (rd_move' rfl) ?_
          refine sx_nil' ?_
          show TX E (KY2 _) _
          exact tx_pick' [] (sub_cons rfl (sub_cons rfl (sub_cons rfl (sub_cons rfl (sub_cons rfl (sub_cons rfl (sub_cons rfl sub_nil))))))) (by decide) pick_nil (ih2 (iadd .i64 x8 1) () _ hp)
         replace hp := (br_f h23).symm.trans hp
         refine cx_exit' ?_
         replace hp := Option.some.inj hp
         subst hp
         show TX E (Zg E (Exit.exit 2) _ (Exit.exit 2)) _
         exact tx_zend' () rfl [] (sub_cons rfl (sub_cons rfl (sub_cons rfl (sub_cons rfl sub_nil)))) (by decide) pick_nil
        rcases y2 with v12 | v13
        ·dsimp only at hp
         refine zg_out fun w12 => ?_
         replace hp := Option.some.inj hp
         subst hp
         show TX E (Zg E Exit.ret _ Exit.ret) _
         exact tx_zend' () rfl [] (sub_cons rfl sub_nil) (by decide) pick_nil
        dsimp only at hp
        refine zg_out fun w13 => ?_
        show TX E K42 _
        refine tx_k' hK42 ?_
        refine cx_region' ?_
        refine s0 (rd_move' rfl) ?_
        refine s0 (rd_bin' rfl rfl eg_int ru_add) ?_
        refine s0 (rd_assign' rfl) ?_
        refine sx_nil' ?_
        show TX E (KY3 _) _
        exact tx_pick' [] (sub_cons rfl (sub_cons rfl (sub_cons rfl (sub_cons rfl sub_nil)))) (by decide) pick_nil (ih3 (iadd .i64 x9 1) () _ hp)
       replace hp := (br_f h18).symm.trans hp
       refine cx_exit' ?_
       replace hp := Option.some.inj hp
       subst hp
       show TX E (Zg E (Exit.exit 0) _ (Exit.exit 0)) _
       exact tx_zend' () rfl [] sub_nil (by decide) pick_nil
      rcases y3 with v14 | v15
      ·dsimp only at hp
       refine zg_out fun w14 => ?_
       replace hp := Option.some.inj hp
       subst hp
       refine tx_pick' (L' := [(6, (Vb false))]) (H' := []) [] (sub_cons rfl sub_nil) (by decide) pick_nil ?_
       exact tx_ret1' Try.results7 rfl () (rv_tmp' rfl) (List.Sublist.refl _)
      dsimp only at hp
      refine zg_out fun w15 => ?_
      show TX E K19 _
      refine tx_k' hK19 ?_
      refine cr fun K59 hK59 => ?_
      refine s0 (rd_assign' rfl) ?_
      refine nk hK59 ?_
      refine cx_retc' ?_
      replace hp := Option.some.inj hp
      subst hp
      refine tx_pick' (L' := [(6, (Vb true))]) (H' := []) [] (sub_cons rfl sub_nil) (by decide) pick_nil ?_
      exact tx_ret1' Try.results7 rfl () (rv_tmp' rfl) (List.Sublist.refl _)
     intro K17 hK17
     rcases br_cases hp with ⟨h8, hp⟩ | ⟨h8, hp⟩
     ·refine sx_skip' rfl rfl (wt_is' (wt_guard' rfl rfl rfl) (beq_tf h8)) ?_
      refine sx_skip' rfl rfl (wt_is' (wt_guard' rfl rfl rfl) (beq_tf h8)) ?_
      refine sx_skip' rfl rfl (wt_is' (wt_guard' rfl rfl rfl) (beq_tf h8)) ?_
      refine sx_skip' rfl rfl (wt_is' (wt_guard' rfl rfl rfl) (beq_tf h8)) ?_
      refine sx_skip' rfl rfl (wt_is' (wt_guard' rfl rfl rfl) (beq_tf h8)) ?_
      refine sx_skip' rfl rfl (wt_is' (wt_guard' rfl rfl rfl) (beq_tf h8)) ?_
      refine sx_skip' rfl rfl (wt_is' (wt_guard' rfl rfl rfl) (beq_tf h8)) ?_
      refine sx_skip' rfl rfl (wt_is' (wt_guard' rfl rfl rfl) (beq_tf h8)) ?_
      refine sx_skip' rfl rfl (wt_is' (wt_guard' rfl rfl rfl) (beq_tf h8)) ?_
      refine sx_skip' rfl rfl (wt_is' (wt_guard' rfl rfl rfl) (beq_tf h8)) ?_
      refine s0 (rd_pick_true' rfl h8 rfl) ?_
      refine sx_nil' ?_
      show TX E K17 _
      exact tx_pick' [] (sub_cons rfl (sub_cons rfl (sub_cons rfl (sub_cons rfl sub_nil)))) (by decide) pick_nil (hK17 true hp)
     refine sx_rd' (rd_move' rfl) rfl rfl (wt_is' (wt_guard' rfl rfl rfl) (beq_ff h8)) ?_
     refine sx_rd' (rd_move' rfl) rfl rfl (wt_is' (wt_guard' rfl rfl rfl) (beq_ff h8)) ?_
     refine sx_rd' (rd_len' rfl Try.underlying34) rfl rfl (wt_is' (wt_guard' rfl rfl rfl) (beq_ff h8)) ?_
     refine sx_rd' (rd_bin' rfl rfl eg_int ru_sub) rfl rfl (wt_is' (wt_guard' rfl rfl rfl) (beq_ff h8)) ?_
     obtain ⟨r64, hr64, hp⟩ := bind_some hp
     refine sx_rd' (rd_at' (K := (Ki .i64)) rfl rfl hr64 Try.underlying34 info3) rfl rfl (wt_is' (wt_guard' rfl rfl rfl) (beq_ff h8)) ?_
     refine sx_rd' (rd_load_pt' rfl rfl flat3) rfl rfl (wt_is' (wt_guard' rfl rfl rfl) (beq_ff h8)) ?_
     refine sx_rd' (rd_move' rfl) rfl rfl (wt_is' (wt_guard' rfl rfl rfl) (beq_ff h8)) ?_
     refine sx_rd' (rd_len' rfl Try.underlying63) rfl rfl (wt_is' (wt_guard' rfl rfl rfl) (beq_ff h8)) ?_
     refine sx_rd' (rd_bin' rfl rfl eg_int ru_sub) rfl rfl (wt_is' (wt_guard' rfl rfl rfl) (beq_ff h8)) ?_
     refine sx_rd' (rd_bin' rfl rfl eg_int ru_neq) rfl rfl (wt_is' (wt_guard' rfl rfl rfl) (beq_ff h8)) ?_
     refine s0 (rd_pick_false' rfl h8 rfl) ?_
     refine sx_nil' ?_
     show TX E K17 _
     exact tx_pick' [] (sub_cons rfl (sub_cons rfl (sub_cons rfl (sub_cons rfl sub_nil)))) (by decide) pick_nil (hK17 (!decide (r64 = (isub .i64 (r20.1.length : Int) 1))) hp)
    intro K16 hK16
    rcases br_cases hp with ⟨h7, hp⟩ | ⟨h7, hp⟩
    ·refine sx_skip' rfl rfl (wt_is' (wt_guard' rfl rfl rfl) (beq_tf h7)) ?_
     refine sx_skip' rfl rfl (wt_is' (wt_guard' rfl rfl rfl) (beq_tf h7)) ?_
     refine sx_skip' rfl rfl (wt_is' (wt_guard' rfl rfl rfl) (beq_tf h7)) ?_
     refine sx_skip' rfl rfl (wt_is' (wt_guard' rfl rfl rfl) (beq_tf h7)) ?_
     refine s0 (rd_pick_true' rfl h7 rfl) ?_
     refine sx_nil' ?_
     show TX E K16 _
     exact tx_pick' [] (sub_cons rfl (sub_cons rfl (sub_cons rfl (sub_cons rfl sub_nil)))) (by decide) pick_nil (hK16 true hp)
    refine sx_rd' (rd_move' rfl) rfl rfl (wt_is' (wt_guard' rfl rfl rfl) (beq_ff h7)) ?_
    obtain ⟨r55, hr55, hp⟩ := bind_some hp
    refine sx_rd' (rd_at' (K := (Ki .i64)) rfl rfl hr55 Try.underlying34 info3) rfl rfl (wt_is' (wt_guard' rfl rfl rfl) (beq_ff h7)) ?_
    refine sx_rd' (rd_load_pt' rfl rfl flat3) rfl rfl (wt_is' (wt_guard' rfl rfl rfl) (beq_ff h7)) ?_
    refine sx_rd' (rd_bin' rfl rfl eg_int ru_neq) rfl rfl (wt_is' (wt_guard' rfl rfl rfl) (beq_ff h7)) ?_
    refine s0 (rd_pick_false' rfl h7 rfl) ?_
    refine sx_nil' ?_
    show TX E K16 _
    exact tx_pick' [] (sub_cons rfl (sub_cons rfl (sub_cons rfl (sub_cons rfl sub_nil)))) (by decide) pick_nil (hK16 (!decide (r55 = 0)) hp)
   intro K15 hK15
   rcases br_cases hp with ⟨h6, hp⟩ | ⟨h6, hp⟩
   ·refine sx_skip' rfl rfl (wt_is' (wt_guard' rfl rfl rfl) (beq_tf h6)) ?_
    refine sx_skip' rfl rfl (wt_is' (wt_guard' rfl rfl rfl) (beq_tf h6)) ?_
    refine sx_skip' rfl rfl (wt_is' (wt_guard' rfl rfl rfl) (beq_tf h6)) ?_
    refine s0 (rd_pick_true' rfl h6 rfl) ?_
    refine sx_nil' ?_
    show TX E K15 _
    exact tx_pick' [] (sub_cons rfl (sub_cons rfl (sub_cons rfl (sub_cons rfl sub_nil)))) (by decide) pick_nil (hK15 true hp)
   refine sx_rd' (rd_move' rfl) rfl rfl (wt_is' (wt_guard' rfl rfl rfl) (beq_ff h6)) ?_
   refine sx_rd' (rd_len' rfl Try.underlying34) rfl rfl (wt_is' (wt_guard' rfl rfl rfl) (beq_ff h6)) ?_
   refine sx_rd' (rd_bin' rfl rfl eg_int ru_lss) rfl rfl (wt_is' (wt_guard' rfl rfl rfl) (beq_ff h6)) ?_
   refine s0 (rd_pick_false' rfl h6 rfl) ?_
   refine sx_nil' ?_
   show TX E K15 _
   exact tx_pick' [] (sub_cons rfl (sub_cons rfl (sub_cons rfl (sub_cons rfl sub_nil)))) (by decide) pick_nil (hK15 (decide ((r43.1.length : Int) < 2)) hp)
  intro K10 hK10
  rcases br_cases hp with ⟨h3, hp⟩ | ⟨h3, hp⟩
  ·refine sx_skip' rfl rfl (wt_is' (wt_guard' rfl rfl rfl) (beq_tf h3)) ?_
   refine sx_skip' rfl rfl (wt_is' (wt_guard' rfl rfl rfl) (beq_tf h3)) ?_
   refine sx_skip' rfl rfl (wt_is' (wt_guard' rfl rfl rfl) (beq_tf h3)) ?_
   refine sx_skip' rfl rfl (wt_undef' rfl rfl rfl) ?_
   refine sx_skip' rfl rfl (wt_undef' rfl rfl rfl) ?_
   refine sx_skip' rfl rfl (wt_is' (wt_guard' rfl rfl rfl) (beq_tf h3)) ?_
   refine sx_skip' rfl rfl (wt_is' (wt_guard' rfl rfl rfl) (beq_tf h3)) ?_
   refine s0 (rd_pick_true' rfl h3 rfl) ?_
   refine sx_nil' ?_
   show TX E K10 _
   exact tx_pick' [] (sub_cons rfl (sub_cons rfl (sub_cons rfl (sub_cons rfl (sub_cons rfl sub_nil))))) (by decide) pick_nil (hK10 true hp)
  refine sx_rd' (rd_move' rfl) rfl rfl (wt_is' (wt_guard' rfl rfl rfl) (beq_ff h3)) ?_
  refine sx_rd' (rd_bin' rfl rfl eg_flt ru_fge) rfl rfl (wt_is' (wt_guard' rfl rfl rfl) (beq_ff h3)) ?_
  refine sx_rd' (rd_move' rfl) rfl rfl (wt_is' (wt_guard' rfl rfl rfl) (beq_ff h3)) ?_
  refine sx_cutn' 5 (fun (v2 : Bool) => (⟨109, [], [(0, (Sl Kf a0)), (1, (Vg a1)), (2, (Vi a2)), (7, (Sl KT96 r20.1)), (38, (Vb v2))], []⟩ : St)) (fun (v2 : Bool) => laws_FnSimplifyNear_j2 k a0 a1 a2 r20 v2 = some out) ?_ ?_
  ·rintro x2 hp
   replace hp : laws_FnSimplifyNear_j2 k a0 a1 a2 r20 x2 = some out := hp
   unfold laws_FnSimplifyNear_j2 at hp
   refine sx_nil' ?_
   show TX E K10 _
   exact tx_pick' [] (sub_cons rfl (sub_cons rfl (sub_cons rfl (sub_cons rfl (sub_cons rfl sub_nil))))) (by decide) pick_nil (hK10 x2 hp)
  intro K9 hK9
  rcases br_cases hp with ⟨h4, hp⟩ | ⟨h4, hp⟩
  ·refine sx_rd' (rd_move' rfl) rfl rfl (wt_is' (wt_guard' rfl rfl rfl) (beq_tt h4)) ?_
   refine sx_rd' (rd_bin' rfl rfl eg_flt ru_fle) rfl rfl (wt_is' (wt_guard' rfl rfl rfl) (beq_tt h4)) ?_
   refine sx_rd' (rd_pick_true' rfl h4 rfl) rfl rfl (wt_is' (wt_guard' rfl rfl rfl) (beq_ff h3)) ?_
   refine sx_rd' (rd_un' rfl ru_not) rfl rfl (wt_is' (wt_guard' rfl rfl rfl) (beq_ff h3)) ?_
   refine s0 (rd_pick_false' rfl h3 rfl) ?_
   refine sx_nil' ?_
   show TX E K9 _
   exact tx_pick' [] (sub_cons rfl (sub_cons rfl (sub_cons rfl (sub_cons rfl (sub_cons rfl sub_nil))))) (by decide) pick_nil (hK9 (!(fle a1 4670232813583204352)) hp)
  refine sx_skip' rfl rfl (wt_is' (wt_guard' rfl rfl rfl) (beq_ft h4)) ?_
  refine sx_skip' rfl rfl (wt_is' (wt_guard' rfl rfl rfl) (beq_ft h4)) ?_
  refine sx_rd' (rd_pick_false' rfl h4 rfl) rfl rfl (wt_is' (wt_guard' rfl rfl rfl) (beq_ff h3)) ?_
  refine sx_rd' (rd_un' rfl ru_not) rfl rfl (wt_is' (wt_guard' rfl rfl rfl) (beq_ff h3)) ?_
  refine s0 (rd_pick_false' rfl h3 rfl) ?_
  refine sx_nil' ?_
  show TX E K9 _
  exact tx_pick' [] (sub_cons rfl (sub_cons rfl (sub_cons rfl (sub_cons rfl (sub_cons rfl sub_nil))))) (by decide) pick_nil (hK9 (!false) hp)
 intro K8 hK8
 rcases br_cases hp with ⟨h2, hp⟩ | ⟨h2, hp⟩
 ·refine sx_skip' rfl rfl (wt_is' (wt_guard' rfl rfl rfl) (beq_tf h2)) ?_
  refine sx_skip' rfl rfl (wt_is' (wt_guard' rfl rfl rfl) (beq_tf h2)) ?_
  refine sx_skip' rfl rfl (wt_is' (wt_guard' rfl rfl rfl) (beq_tf h2)) ?_
  refine s0 (rd_pick_true' rfl h2 rfl) ?_
  refine sx_nil' ?_
  show TX E K8 _
  exact tx_pick' [] (sub_cons rfl (sub_cons rfl (sub_cons rfl (sub_cons rfl (sub_cons rfl sub_nil))))) (by decide) pick_nil (hK8 true hp)
 refine sx_rd' (rd_move' rfl) rfl rfl (wt_is' (wt_guard' rfl rfl rfl) (beq_ff h2)) ?_
 refine sx_rd' (rd_len' rfl Try.underlying63) rfl rfl (wt_is' (wt_guard' rfl rfl rfl) (beq_ff h2)) ?_
 refine sx_rd' (rd_bin' rfl rfl eg_int ru_lss) rfl rfl (wt_is' (wt_guard' rfl rfl rfl) (beq_ff h2)) ?_
 refine s0 (rd_pick_false' rfl h2 rfl) ?_
 refine sx_nil' ?_
 show TX E K8 _
 exact tx_pick' [] (sub_cons rfl (sub_cons rfl (sub_cons rfl (sub_cons rfl (sub_cons rfl sub_nil))))) (by decide) pick_nil (hK8 (decide ((r20.1.length : Int) < 3)) hp)

end Go.Proofs.Ytlipjaacncpaoaa
