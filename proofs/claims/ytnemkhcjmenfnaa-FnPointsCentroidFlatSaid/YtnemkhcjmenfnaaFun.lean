/-
  Plain functions for the Go functions that this law reaches, and that each call does what its plain function says. Printed by a program of ours.
-/
import Derived.Test.YtnemkhcjmenfnaaProg
import Derived.Test.YtnemkhcjmenfnaaSxZ
import Derived.Test.YtnemkhcjmenfnaaFun1
namespace Go.Proofs.Ytnemkhcjmenfnaa
open Go.Sx
set_option linter.unusedVariables false
set_option maxRecDepth 100000

def spec_Whole_Mul_l2s (a1_1 : List Int) (x12 : Int) (r26 : Int) (k : Nat) (rec2 : ((List Int) × Int × Int) → Option ((List Int) × Int)) (x6 : List Int) (x7 : Int) (x8 : Int) : Option ((List Int) × Int) :=
  br (decide (x8 < (a1_1.length : Int)))
    ((idx a1_1 x8) >>= fun r34 =>
    (idx x6 (iadd .i64 x12 x8)) >>= fun r45 =>
    (idx x6 (iadd .i64 x12 x8)) >>= fun r57 =>
    (ishr .u64 (iadd .u64 (iadd .u64 (imul .u64 (icv .u64 r26) (icv .u64 r34)) (icv .u64 r45)) x7) 32) >>= fun r59 =>
    rec2 ((x6.set (iadd .i64 x12 x8).toNat (icv .u32 (iadd .u64 (iadd .u64 (imul .u64 (icv .u64 r26) (icv .u64 r34)) (icv .u64 r45)) x7))), r59, (iadd .i64 x8 1)))
    (some (x6, x7))
def spec_Whole_Mul_l2 (a1_1 : List Int) (x12 : Int) (r26 : Int) : Nat → ((List Int) × Int × Int) → Option ((List Int) × Int)
  | 0, _ => none
  | k + 1, v => spec_Whole_Mul_l2s a1_1 x12 r26 k (spec_Whole_Mul_l2 a1_1 x12 r26 k) v.1 v.2.1 v.2.2
def spec_Whole_Mul_l3s (a0_1 : List Int) (a1_1 : List Int) (k : Nat) (rec3 : ((List Int) × Int) → Option ((List Int))) (x11 : List Int) (x12 : Int) : Option ((List Int)) :=
  br (decide (x12 < (a0_1.length : Int)))
    ((idx a0_1 x12) >>= fun r26 =>
    (spec_Whole_Mul_l2 a1_1 x12 r26 k (x11, 0, 0)) >>= fun v5 =>
    (idx v5.1 (iadd .i64 x12 (a1_1.length : Int))) >>= fun r69 =>
    rec3 ((v5.1.set (iadd .i64 x12 (a1_1.length : Int)).toNat (icv .u32 v5.2)), (iadd .i64 x12 1)))
    (some x11)
def spec_Whole_Mul_l3 (a0_1 : List Int) (a1_1 : List Int) : Nat → ((List Int) × Int) → Option ((List Int))
  | 0, _ => none
  | k + 1, v => spec_Whole_Mul_l3s a0_1 a1_1 k (spec_Whole_Mul_l3 a0_1 a1_1 k) v.1 v.2
def spec_Whole_Mul_j1 (k : Nat) (r72 : (List Int)) (x14 : Bool) : Option (Bool × (List Int)) :=
  some (x14, r72)
def spec_Whole_Mul (k : Nat) (a0_0 : Bool) (a0_1 : List Int) (a1_0 : Bool) (a1_1 : List Int) : Option (Bool × (List Int)) :=
  (mk 4 0 (iadd .i64 (a0_1.length : Int) (a1_1.length : Int)) (iadd .i64 (a0_1.length : Int) (a1_1.length : Int))) >>= fun r19 =>
  (spec_Whole_Mul_l3 a0_1 a1_1 k (r19, 0)) >>= fun v6 =>
  (spec_trim k v6) >>= fun r72 =>
  br (decide (0 < (r72.length : Int)))
    (spec_Whole_Mul_j1 k r72 (!(a0_0 == a1_0)))
    (spec_Whole_Mul_j1 k r72 false)

theorem spec_Whole_Mul_sim {k : Nat}  (a0_0 : Bool) (a0_1 : List Int) (a1_0 : Bool) (a1_1 : List Int) {out : Bool × (List Int)} (hp : spec_Whole_Mul k a0_0 a0_1 a1_0 a1_1 = some out) : Go.Sx.Fn Try.prog 94 [(Ag [(Vl (.bool a0_0)), (Sl (Ki .u32) a0_1)]), (Ag [(Vl (.bool a1_0)), (Sl (Ki .u32) a1_1)])] [] (fun w : Unit => (Ag [(Vl (.bool out.1)), (Sl (Ki .u32) out.2)])) (fun w => []) := by
  unfold spec_Whole_Mul at hp
  refine fn_of Try.func94 rfl Try.ntmps94 rfl fun E hM => ?_
  refine cx_seq' fun K1 hK1 => ?_
  refine cx_region' ?_
  refine sx_ox' (ox_box' rfl (lv_ag _) rfl rfl) (wt_none' rfl) fun q2 => ?_
  refine sx_ox' (ox_box' rfl (lv_ag _) rfl rfl) (wt_none' rfl) fun q3 => ?_
  refine sx_ox' (ox_alloc' info38 rfl rfl rfl rfl (l := [(Vl (.bool false)), (Vl (.slice none 0 0))]) rfl) (wt_none' rfl) fun q4 => ?_
  refine sx_nil' ?_
  show TX E K1 _
  refine tx_k' hK1 ?_
  refine cx_seq' fun K2 hK2 => ?_
  refine cx_region' ?_
  refine sx_rd' (rd_field' (off := 1) rfl Try.underlying38 rfl info36 rfl) rfl rfl (wt_none' rfl) ?_
  refine sx_rd' (rd_load' (i := 2) (o := 1) rfl ⟨rfl, rfl, rfl, rfl⟩ rfl flat36) rfl rfl (wt_none' rfl) ?_
  refine sx_rd' (rd_len' rfl Try.underlying36) rfl rfl (wt_none' rfl) ?_
  refine sx_rd' (rd_field' (off := 1) rfl Try.underlying38 rfl info36 rfl) rfl rfl (wt_none' rfl) ?_
  refine sx_rd' (rd_load' (i := 1) (o := 1) rfl ⟨rfl, rfl, rfl, rfl⟩ rfl flat36) rfl rfl (wt_none' rfl) ?_
  refine sx_rd' (rd_len' rfl Try.underlying36) rfl rfl (wt_none' rfl) ?_
  refine sx_rd' (rd_bin' rfl rfl eg_int ru_add) rfl rfl (wt_none' rfl) ?_
  obtain ⟨r19, hr19, hp⟩ := bind_some hp
  refine sx_ox' (ox_make' (K := (Ki .u32)) rfl rfl hr19 rfl Try.underlying36 info152 rfl rfl rfl rfl rfl) (wt_none' rfl) fun g19 => ?_
  refine sx_rd' (rd_assign' rfl) rfl rfl (wt_none' rfl) ?_
  refine sx_nil' ?_
  show TX E K2 _
  refine tx_k' hK2 ?_
  refine cx_seq' fun K3 hK3 => ?_
  refine cx_seq' fun K4 hK4 => ?_
  refine cx_region' ?_
  refine sx_rd' (rd_field' (off := 1) rfl Try.underlying38 rfl info36 rfl) rfl rfl (wt_none' rfl) ?_
  refine sx_rd' (rd_load' (i := 3) (o := 1) rfl ⟨rfl, rfl, rfl, rfl⟩ rfl flat36) rfl rfl (wt_none' rfl) ?_
  refine sx_rd' (rd_len' rfl Try.underlying36) rfl rfl (wt_none' rfl) ?_
  refine sx_rd' (rd_move' rfl) rfl rfl (wt_none' rfl) ?_
  refine sx_nil' ?_
  show TX E K4 _
  refine tx_k' hK4 ?_
  refine cx_block' ?_
  obtain ⟨v6, hy3, hp⟩ := bind_some hp
  refine cx_loopg' (F := spec_Whole_Mul_l3 a0_1 a1_1) (G := fun k R v => spec_Whole_Mul_l3s a0_1 a1_1 k R v.1 v.2) (x := (r19, 0)) (gh := ()) (fun (v3 : (List Int) × Int) (w3 : Unit) => (⟨85, [], [(2, (Vl (.pointer (some q2)))), (3, (Vl (.pointer (some q3)))), (4, (Vl (.pointer (some q4)))), (5, (Vl (Vs g19))), (21, (Sl (Ki .u32) a0_1)), (22, (Vl (.int .i64 (a0_1.length : Int)))), (23, (Vl (.int .i64 v3.2)))], [⟨.pointer (some q2), [(Vl (.bool a0_0)), (Sl (Ki .u32) a0_1)], 38, none⟩, ⟨.pointer (some q3), [(Vl (.bool a1_0)), (Sl (Ki .u32) a1_1)], 38, none⟩, ⟨.pointer (some q4), [(Vl (.bool false)), (Vl (.slice none 0 0))], 38, none⟩, (Rw (Ki .u32) 152 (Vs g19) v3.1)]⟩ : St)) (fun (v6 : (List Int)) => Zg E (Exit.exit 0) (fun (w6 : Unit) => (⟨85, [], [(2, (Vl (.pointer (some q2)))), (3, (Vl (.pointer (some q3)))), (4, (Vl (.pointer (some q4)))), (5, (Vl (Vs g19)))], [⟨.pointer (some q2), [(Vl (.bool a0_0)), (Sl (Ki .u32) a0_1)], 38, none⟩, ⟨.pointer (some q3), [(Vl (.bool a1_0)), (Sl (Ki .u32) a1_1)], 38, none⟩, ⟨.pointer (some q4), [(Vl (.bool false)), (Vl (.slice none 0 0))], 38, none⟩, (Rw (Ki .u32) 152 (Vs g19) v6)]⟩ : St))) (fun _ => rfl) (fun _ _ => rfl) ?_ hy3 (tx_to' rfl [3, 2, 1, 0] (sub_cons rfl (sub_cons rfl (sub_cons rfl (sub_cons rfl (sub_cons rfl (sub_cons rfl (sub_cons rfl sub_nil))))))) (by decide) (pick_cons rfl (pick_cons rfl (pick_cons rfl (pick_cons rfl pick_nil))))) ?_
  · clear hp hy3
    clear v6
    intro k rec3 KY3 ih3
    rintro ⟨x11, x12⟩ ⟨⟩ y3 hp
    replace hp : spec_Whole_Mul_l3s a0_1 a1_1 k rec3 x11 x12 = some y3 := hp
    unfold spec_Whole_Mul_l3s at hp
    refine cx_seq' fun K24 hK24 => ?_
    refine cx_region' ?_
    refine sx_rd' (rd_bin' rfl rfl eg_int ru_lss) rfl rfl (wt_none' rfl) ?_
    refine sx_nil' ?_
    show TX E K24 _
    refine tx_k' hK24 ?_
    refine cx_seq' fun K25 hK25 => ?_
    refine cx_cond' rfl (fun h6 => ?_) (fun h6 => ?_)
    · replace hp := (br_t h6).symm.trans hp
      refine cx_skip' ?_
      show TX E K25 _
      refine tx_k' hK25 ?_
      refine cx_seq' fun K26 hK26 => ?_
      refine cx_block' ?_
      refine cx_seq' fun K27 hK27 => ?_
      refine cx_region' ?_
      refine sx_rd' (rd_move' rfl) rfl rfl (wt_none' rfl) ?_
      obtain ⟨r26, hr26, hp⟩ := bind_some hp
      refine sx_rd' (rd_at' (K := (Ki .u32)) rfl rfl hr26 Try.underlying36 info152) rfl rfl (wt_none' rfl) ?_
      refine sx_rd' (rd_load_pt' rfl rfl flat152) rfl rfl (wt_none' rfl) ?_
      refine sx_rd' (rd_assign' rfl) rfl rfl (wt_none' rfl) ?_
      refine sx_rd' (rd_assign' rfl) rfl rfl (wt_none' rfl) ?_
      refine sx_nil' ?_
      show TX E K27 _
      refine tx_k' hK27 ?_
      refine cx_seq' fun K28 hK28 => ?_
      refine cx_region' ?_
      refine sx_rd' (rd_assign' rfl) rfl rfl (wt_none' rfl) ?_
      refine sx_nil' ?_
      show TX E K28 _
      refine tx_k' hK28 ?_
      refine cx_seq' fun K29 hK29 => ?_
      refine cx_seq' fun K30 hK30 => ?_
      refine cx_region' ?_
      refine sx_rd' (rd_field' (off := 1) rfl Try.underlying38 rfl info36 rfl) rfl rfl (wt_none' rfl) ?_
      refine sx_rd' (rd_load' (i := 1) (o := 1) rfl ⟨rfl, rfl, rfl, rfl⟩ rfl flat36) rfl rfl (wt_none' rfl) ?_
      refine sx_rd' (rd_len' rfl Try.underlying36) rfl rfl (wt_none' rfl) ?_
      refine sx_rd' (rd_move' rfl) rfl rfl (wt_none' rfl) ?_
      refine sx_nil' ?_
      show TX E K30 _
      refine tx_k' hK30 ?_
      refine cx_block' ?_
      obtain ⟨v5, hy2, hp⟩ := bind_some hp
      refine cx_loopg' (F := spec_Whole_Mul_l2 a1_1 x12 r26) (G := fun k R v => spec_Whole_Mul_l2s a1_1 x12 r26 k R v.1 v.2.1 v.2.2) (x := (x11, 0, 0)) (gh := ()) (fun (v4 : (List Int) × Int × Int) (w4 : Unit) => (⟨85, [], [(2, (Vl (.pointer (some q2)))), (3, (Vl (.pointer (some q3)))), (4, (Vl (.pointer (some q4)))), (5, (Vl (Vs g19))), (6, (Vl (.int .i64 x12))), (7, (Vl (.int .u32 r26))), (8, (Vl (.int .u64 v4.2.1))), (21, (Sl (Ki .u32) a0_1)), (22, (Vl (.int .i64 (a0_1.length : Int)))), (23, (Vl (.int .i64 x12))), (29, (Sl (Ki .u32) a1_1)), (30, (Vl (.int .i64 (a1_1.length : Int)))), (31, (Vl (.int .i64 v4.2.2)))], [⟨.pointer (some q2), [(Vl (.bool a0_0)), (Sl (Ki .u32) a0_1)], 38, none⟩, ⟨.pointer (some q3), [(Vl (.bool a1_0)), (Sl (Ki .u32) a1_1)], 38, none⟩, ⟨.pointer (some q4), [(Vl (.bool false)), (Vl (.slice none 0 0))], 38, none⟩, (Rw (Ki .u32) 152 (Vs g19) v4.1)]⟩ : St)) (fun (v5 : (List Int) × Int) => Zg E (Exit.exit 2) (fun (w5 : Unit) => (⟨85, [], [(2, (Vl (.pointer (some q2)))), (3, (Vl (.pointer (some q3)))), (4, (Vl (.pointer (some q4)))), (5, (Vl (Vs g19))), (6, (Vl (.int .i64 x12))), (8, (Vl (.int .u64 v5.2))), (21, (Sl (Ki .u32) a0_1)), (22, (Vl (.int .i64 (a0_1.length : Int)))), (23, (Vl (.int .i64 x12)))], [⟨.pointer (some q2), [(Vl (.bool a0_0)), (Sl (Ki .u32) a0_1)], 38, none⟩, ⟨.pointer (some q3), [(Vl (.bool a1_0)), (Sl (Ki .u32) a1_1)], 38, none⟩, ⟨.pointer (some q4), [(Vl (.bool false)), (Vl (.slice none 0 0))], 38, none⟩, (Rw (Ki .u32) 152 (Vs g19) v5.1)]⟩ : St))) (fun _ => rfl) (fun _ _ => rfl) ?_ hy2 (tx_to' rfl [0, 1, 2, 3] (sub_cons rfl (sub_cons rfl (sub_cons rfl (sub_cons rfl (sub_cons rfl (sub_cons rfl (sub_cons rfl (sub_cons rfl (sub_cons rfl (sub_cons rfl (sub_cons rfl (sub_cons rfl (sub_cons rfl sub_nil))))))))))))) (by decide) (pick_cons rfl (pick_cons rfl (pick_cons rfl (pick_cons rfl pick_nil))))) ?_
      · clear hp hy2
        clear v5
        intro k rec2 KY2 ih2
        rintro ⟨x6, x7, x8⟩ ⟨⟩ y2 hp
        replace hp : spec_Whole_Mul_l2s a1_1 x12 r26 k rec2 x6 x7 x8 = some y2 := hp
        unfold spec_Whole_Mul_l2s at hp
        refine cx_seq' fun K37 hK37 => ?_
        refine cx_region' ?_
        refine sx_rd' (rd_bin' rfl rfl eg_int ru_lss) rfl rfl (wt_none' rfl) ?_
        refine sx_nil' ?_
        show TX E K37 _
        refine tx_k' hK37 ?_
        refine cx_seq' fun K38 hK38 => ?_
        refine cx_cond' rfl (fun h9 => ?_) (fun h9 => ?_)
        · replace hp := (br_t h9).symm.trans hp
          refine cx_skip' ?_
          show TX E K38 _
          refine tx_k' hK38 ?_
          refine cx_seq' fun K39 hK39 => ?_
          refine cx_block' ?_
          refine cx_seq' fun K40 hK40 => ?_
          refine cx_region' ?_
          refine sx_rd' (rd_move' rfl) rfl rfl (wt_none' rfl) ?_
          obtain ⟨r34, hr34, hp⟩ := bind_some hp
          refine sx_rd' (rd_at' (K := (Ki .u32)) rfl rfl hr34 Try.underlying36 info152) rfl rfl (wt_none' rfl) ?_
          refine sx_rd' (rd_load_pt' rfl rfl flat152) rfl rfl (wt_none' rfl) ?_
          refine sx_rd' (rd_assign' rfl) rfl rfl (wt_none' rfl) ?_
          refine sx_rd' (rd_assign' rfl) rfl rfl (wt_none' rfl) ?_
          refine sx_nil' ?_
          show TX E K40 _
          refine tx_k' hK40 ?_
          refine cx_seq' fun K41 hK41 => ?_
          refine cx_region' ?_
          refine sx_rd' (rd_move' rfl) rfl rfl (wt_none' rfl) ?_
          refine sx_rd' (rd_conv' rfl (ru_i2i (by rw [Try.underlying152]; rfl) Try.underlying112)) rfl rfl (wt_none' rfl) ?_
          refine sx_rd' (rd_move' rfl) rfl rfl (wt_none' rfl) ?_
          refine sx_rd' (rd_conv' rfl (ru_i2i (by rw [Try.underlying152]; rfl) Try.underlying112)) rfl rfl (wt_none' rfl) ?_
          refine sx_rd' (rd_bin' rfl rfl eg_int ru_mul) rfl rfl (wt_none' rfl) ?_
          refine sx_rd' (rd_move' rfl) rfl rfl (wt_none' rfl) ?_
          refine sx_rd' (rd_move' rfl) rfl rfl (wt_none' rfl) ?_
          refine sx_rd' (rd_move' rfl) rfl rfl (wt_none' rfl) ?_
          refine sx_rd' (rd_bin' rfl rfl eg_int ru_add) rfl rfl (wt_none' rfl) ?_
          obtain ⟨r45, hr45, hp⟩ := bind_some hp
          refine sx_rd' (rd_atr' (m := 3) rfl rfl rfl rfl hr45 Try.underlying36 info152) rfl rfl (wt_none' rfl) ?_
          refine sx_rd' (rd_loadr' rfl (m := 3) (i := (iadd .i64 x12 x8)) (j := 0) rfl rfl hr45 rfl rfl flat152) rfl rfl (wt_none' rfl) ?_
          refine sx_rd' (rd_conv' rfl (ru_i2i (by rw [Try.underlying152]; rfl) Try.underlying112)) rfl rfl (wt_none' rfl) ?_
          refine sx_rd' (rd_bin' rfl rfl eg_int ru_add) rfl rfl (wt_none' rfl) ?_
          refine sx_rd' (rd_move' rfl) rfl rfl (wt_none' rfl) ?_
          refine sx_rd' (rd_bin' rfl rfl eg_int ru_add) rfl rfl (wt_none' rfl) ?_
          refine sx_rd' (rd_assign' rfl) rfl rfl (wt_none' rfl) ?_
          refine sx_nil' ?_
          show TX E K41 _
          refine tx_k' hK41 ?_
          refine cx_seq' fun K42 hK42 => ?_
          refine cx_region' ?_
          refine sx_rd' (rd_move' rfl) rfl rfl (wt_none' rfl) ?_
          refine sx_rd' (rd_move' rfl) rfl rfl (wt_none' rfl) ?_
          refine sx_rd' (rd_move' rfl) rfl rfl (wt_none' rfl) ?_
          refine sx_rd' (rd_bin' rfl rfl eg_int ru_add) rfl rfl (wt_none' rfl) ?_
          refine sx_rd' (rd_move' rfl) rfl rfl (wt_none' rfl) ?_
          refine sx_rd' (rd_conv' rfl (ru_i2i (by rw [Try.underlying112]; rfl) Try.underlying152)) rfl rfl (wt_none' rfl) ?_
          obtain ⟨r57, hr57, hp⟩ := bind_some hp
          refine sx_rd' (rd_atr' (m := 3) rfl rfl rfl rfl hr57 Try.underlying36 info152) rfl rfl (wt_none' rfl) ?_
          refine sx_ox' (ox_storer' (m := 3) (i := (iadd .i64 x12 x8)) (j := 0) (x' := (icv .u32 (iadd .u64 (iadd .u64 (imul .u64 (icv .u64 r26) (icv .u64 r34)) (icv .u64 r45)) x7))) rfl rfl (lv_vl rfl rfl) rfl rfl hr57 rfl rfl rfl info152 rfl (H' := [⟨.pointer (some q2), [(Vl (.bool a0_0)), (Sl (Ki .u32) a0_1)], 38, none⟩, ⟨.pointer (some q3), [(Vl (.bool a1_0)), (Sl (Ki .u32) a1_1)], 38, none⟩, ⟨.pointer (some q4), [(Vl (.bool false)), (Vl (.slice none 0 0))], 38, none⟩, (Rw (Ki .u32) 152 (Vs g19) (x6.set (iadd .i64 x12 x8).toNat (icv .u32 (iadd .u64 (iadd .u64 (imul .u64 (icv .u64 r26) (icv .u64 r34)) (icv .u64 r45)) x7))))]) rfl) (wt_none' rfl) fun _ => ?_
          refine sx_nil' ?_
          show TX E K42 _
          refine tx_k' hK42 ?_
          refine cx_region' ?_
          refine sx_rd' (rd_move' rfl) rfl rfl (wt_none' rfl) ?_
          obtain ⟨r59, hr59, hp⟩ := bind_some hp
          refine sx_rd' (rd_bin' rfl rfl eg_int (ru_shr hr59)) rfl rfl (wt_none' rfl) ?_
          refine sx_rd' (rd_assign' rfl) rfl rfl (wt_none' rfl) ?_
          refine sx_nil' ?_
          show TX E K39 _
          refine tx_k' hK39 ?_
          refine cx_region' ?_
          refine sx_rd' (rd_bin' rfl rfl eg_int ru_add) rfl rfl (wt_none' rfl) ?_
          refine sx_rd' (rd_move' rfl) rfl rfl (wt_none' rfl) ?_
          refine sx_nil' ?_
          show TX E (KY2 _) _
          exact tx_pick' [0, 1, 2, 3] (sub_cons rfl (sub_cons rfl (sub_cons rfl (sub_cons rfl (sub_cons rfl (sub_cons rfl (sub_cons rfl (sub_cons rfl (sub_cons rfl (sub_cons rfl (sub_cons rfl (sub_cons rfl (sub_cons rfl sub_nil))))))))))))) (by decide) (pick_cons rfl (pick_cons rfl (pick_cons rfl (pick_cons rfl pick_nil)))) (ih2 ((x6.set (iadd .i64 x12 x8).toNat (icv .u32 (iadd .u64 (iadd .u64 (imul .u64 (icv .u64 r26) (icv .u64 r34)) (icv .u64 r45)) x7))), r59, (iadd .i64 x8 1)) () _ hp)
        · replace hp := (br_f h9).symm.trans hp
          refine cx_exit' ?_
          replace hp := Option.some.inj hp
          subst hp
          show TX E (Zg E (Exit.exit 2) _ (Exit.exit 2)) _
          exact tx_zend' () rfl [0, 1, 2, 3] (sub_cons rfl (sub_cons rfl (sub_cons rfl (sub_cons rfl (sub_cons rfl (sub_cons rfl (sub_cons rfl (sub_cons rfl (sub_cons rfl sub_nil))))))))) (by decide) (pick_cons rfl (pick_cons rfl (pick_cons rfl (pick_cons rfl pick_nil))))
      · refine zg_out fun w5 => ?_
        show TX E K29 _
        refine tx_k' hK29 ?_
        refine cx_region' ?_
        refine sx_rd' (rd_move' rfl) rfl rfl (wt_none' rfl) ?_
        refine sx_rd' (rd_move' rfl) rfl rfl (wt_none' rfl) ?_
        refine sx_rd' (rd_field' (off := 1) rfl Try.underlying38 rfl info36 rfl) rfl rfl (wt_none' rfl) ?_
        refine sx_rd' (rd_load' (i := 1) (o := 1) rfl ⟨rfl, rfl, rfl, rfl⟩ rfl flat36) rfl rfl (wt_none' rfl) ?_
        refine sx_rd' (rd_len' rfl Try.underlying36) rfl rfl (wt_none' rfl) ?_
        refine sx_rd' (rd_bin' rfl rfl eg_int ru_add) rfl rfl (wt_none' rfl) ?_
        refine sx_rd' (rd_move' rfl) rfl rfl (wt_none' rfl) ?_
        refine sx_rd' (rd_conv' rfl (ru_i2i (by rw [Try.underlying112]; rfl) Try.underlying152)) rfl rfl (wt_none' rfl) ?_
        obtain ⟨r69, hr69, hp⟩ := bind_some hp
        refine sx_rd' (rd_atr' (m := 3) rfl rfl rfl rfl hr69 Try.underlying36 info152) rfl rfl (wt_none' rfl) ?_
        refine sx_ox' (ox_storer' (m := 3) (i := (iadd .i64 x12 (a1_1.length : Int))) (j := 0) (x' := (icv .u32 v5.2)) rfl rfl (lv_vl rfl rfl) rfl rfl hr69 rfl rfl rfl info152 rfl (H' := [⟨.pointer (some q2), [(Vl (.bool a0_0)), (Sl (Ki .u32) a0_1)], 38, none⟩, ⟨.pointer (some q3), [(Vl (.bool a1_0)), (Sl (Ki .u32) a1_1)], 38, none⟩, ⟨.pointer (some q4), [(Vl (.bool false)), (Vl (.slice none 0 0))], 38, none⟩, (Rw (Ki .u32) 152 (Vs g19) (v5.1.set (iadd .i64 x12 (a1_1.length : Int)).toNat (icv .u32 v5.2)))]) rfl) (wt_none' rfl) fun _ => ?_
        refine sx_nil' ?_
        show TX E K26 _
        refine tx_k' hK26 ?_
        refine cx_region' ?_
        refine sx_rd' (rd_bin' rfl rfl eg_int ru_add) rfl rfl (wt_none' rfl) ?_
        refine sx_rd' (rd_move' rfl) rfl rfl (wt_none' rfl) ?_
        refine sx_nil' ?_
        show TX E (KY3 _) _
        exact tx_pick' [0, 1, 2, 3] (sub_cons rfl (sub_cons rfl (sub_cons rfl (sub_cons rfl (sub_cons rfl (sub_cons rfl (sub_cons rfl sub_nil))))))) (by decide) (pick_cons rfl (pick_cons rfl (pick_cons rfl (pick_cons rfl pick_nil)))) (ih3 ((v5.1.set (iadd .i64 x12 (a1_1.length : Int)).toNat (icv .u32 v5.2)), (iadd .i64 x12 1)) () _ hp)
    · replace hp := (br_f h6).symm.trans hp
      refine cx_exit' ?_
      replace hp := Option.some.inj hp
      subst hp
      show TX E (Zg E (Exit.exit 0) _ (Exit.exit 0)) _
      exact tx_zend' () rfl [0, 1, 2, 3] (sub_cons rfl (sub_cons rfl (sub_cons rfl (sub_cons rfl sub_nil)))) (by decide) (pick_cons rfl (pick_cons rfl (pick_cons rfl (pick_cons rfl pick_nil))))
  · refine zg_out fun w6 => ?_
    show TX E K3 _
    refine tx_k' hK3 ?_
    refine cx_seq' fun K43 hK43 => ?_
    refine cx_region' ?_
    refine sx_rd' (rd_move' rfl) rfl rfl (wt_none' rfl) ?_
    refine tx_fz' (frz_row 3 [(5, (Vl (Vs g19)), (Sl (Ki .u32) v6)), (71, (Vl (Vs g19)), (Sl (Ki .u32) v6))] (K := (Ki .u32)) (xs := v6) (by decide) rfl ⟨⟨rfl, frz_it⟩, ⟨rfl, frz_it⟩, trivial⟩ (H' := [⟨.pointer (some q2), [(Vl (.bool a0_0)), (Sl (Ki .u32) a0_1)], 38, none⟩, ⟨.pointer (some q3), [(Vl (.bool a1_0)), (Sl (Ki .u32) a1_1)], 38, none⟩, ⟨.pointer (some q4), [(Vl (.bool false)), (Vl (.slice none 0 0))], 38, none⟩]) frzH_refl) ?_
    obtain ⟨r72, hr72, hp⟩ := bind_some hp
    refine sx_ox' (ox_calln' (ent_fn' Try.func135 isn135 rfl rfl) (spec_trim_sim _ hr72 : Go.Sx.Fn Try.prog 135 [(Sl (Ki .u32) v6)] [] (fun x : Unit => (Sl (Ki .u32) r72)) (fun x => [])) (Hn := fun x : Unit => [⟨.pointer (some q2), [(Vl (.bool a0_0)), (Sl (Ki .u32) a0_1)], 38, none⟩, ⟨.pointer (some q3), [(Vl (.bool a1_0)), (Sl (Ki .u32) a1_1)], 38, none⟩, ⟨.pointer (some q4), [(Vl (.bool false)), (Vl (.slice none 0 0))], 38, none⟩]) (fun _ => rfl) rfl rfl) (wt_none' rfl) fun ⟨⟩ => ?_
    refine sx_rd' (rd_assign' rfl) rfl rfl (wt_none' rfl) ?_
    refine sx_nil' ?_
    show TX E K43 _
    refine tx_k' hK43 ?_
    refine cx_seq' fun K44 hK44 => ?_
    refine cx_region' ?_
    refine sx_rd' (rd_move' rfl) rfl rfl (wt_none' rfl) ?_
    refine sx_rd' (rd_len' rfl Try.underlying36) rfl rfl (wt_none' rfl) ?_
    refine sx_rd' (rd_bin' rfl rfl eg_int ru_gtr) rfl rfl (wt_none' rfl) ?_
    refine sx_rd' (rd_move' rfl) rfl rfl (wt_none' rfl) ?_
    refine sx_cutn' 6 (fun (v7 : Bool) => (⟨85, [], [(4, (Vl (.pointer (some q4)))), (5, (Sl (Ki .u32) r72)), (82, (Vl (.bool v7)))], [⟨.pointer (some q4), [(Vl (.bool false)), (Vl (.slice none 0 0))], 38, none⟩]⟩ : St)) (fun (v7 : Bool) => spec_Whole_Mul_j1 k r72 v7 = some out) ?_ ?_
    · rintro x14 hp
      replace hp : spec_Whole_Mul_j1 k r72 x14 = some out := hp
      unfold spec_Whole_Mul_j1 at hp
      refine sx_rd' (rd_move' rfl) rfl rfl (wt_none' rfl) ?_
      refine sx_rd' (rd_build' (pls := [(0, 1), (1, 1)]) (qs := [(0, [(Vl (.bool x14))]), (1, [(Sl (Ki .u32) r72)])]) (r := [(Vl (.bool x14)), (Sl (Ki .u32) r72)]) ⟨rfl, ⟨_, rfl, (lv_vl rfl rfl)⟩, ⟨rfl, ⟨_, rfl, (lv_sl _ _)⟩, trivial⟩⟩ Try.underlying38 has38 places38 info38 rfl rfl rfl) rfl rfl (wt_none' rfl) ?_
      refine sx_ox' (ox_store' (i := 0) (o := 0) rfl rfl (lv_ag _) ⟨rfl, rfl, rfl, rfl⟩ rfl info38 rfl (H' := [⟨.pointer (some q4), [(Vl (.bool x14)), (Sl (Ki .u32) r72)], 38, none⟩]) rfl) (wt_none' rfl) fun _ => ?_
      refine sx_nil' ?_
      show TX E K44 _
      refine tx_k' hK44 ?_
      refine cx_retc' ?_
      replace hp := Option.some.inj hp
      subst hp
      refine tx_pick' (L' := [(4, (Vl (.pointer (some q4))))]) (H' := [⟨.pointer (some q4), [(Vl (.bool x14)), (Sl (Ki .u32) r72)], 38, none⟩]) [0] (sub_cons rfl sub_nil) (by decide) (pick_cons rfl pick_nil) ?_
      exact tx_ret1' Try.results94 rfl () (rv_cell_agg' (i := 0) (o := 0) (nn := 2) rfl ⟨rfl, rfl, rfl, rfl⟩ rfl agg38 rfl) (List.nil_sublist _)
    · intro K45 hK45
      rcases br_cases hp with ⟨h10, hp⟩ | ⟨h10, hp⟩
      · refine sx_rd' (rd_field0' rfl Try.underlying38 rfl info4 rfl) rfl rfl (wt_is' (wt_guard' rfl rfl rfl) (beq_tt h10)) ?_
        refine sx_rd' (rd_load' (i := 0) (o := 0) rfl ⟨rfl, rfl, rfl, rfl⟩ rfl flat4) rfl rfl (wt_is' (wt_guard' rfl rfl rfl) (beq_tt h10)) ?_
        refine sx_rd' (rd_field0' rfl Try.underlying38 rfl info4 rfl) rfl rfl (wt_is' (wt_guard' rfl rfl rfl) (beq_tt h10)) ?_
        refine sx_rd' (rd_load' (i := 1) (o := 0) rfl ⟨rfl, rfl, rfl, rfl⟩ rfl flat4) rfl rfl (wt_is' (wt_guard' rfl rfl rfl) (beq_tt h10)) ?_
        refine sx_rd' (rd_bin' rfl rfl eg_bool (ru_bne Try.underlying4)) rfl rfl (wt_is' (wt_guard' rfl rfl rfl) (beq_tt h10)) ?_
        refine sx_rd' (rd_pick_true' rfl h10 rfl) rfl rfl (wt_none' rfl) ?_
        refine sx_nil' ?_
        show TX E K45 _
        exact tx_pick' [2] (sub_cons rfl (sub_cons rfl (sub_cons rfl sub_nil))) (by decide) (pick_cons rfl pick_nil) (hK45 (!(a0_0 == a1_0)) hp)
      · refine sx_skip' rfl rfl (wt_is' (wt_guard' rfl rfl rfl) (beq_ft h10)) ?_
        refine sx_skip' rfl rfl (wt_is' (wt_guard' rfl rfl rfl) (beq_ft h10)) ?_
        refine sx_skip' rfl rfl (wt_is' (wt_guard' rfl rfl rfl) (beq_ft h10)) ?_
        refine sx_skip' rfl rfl (wt_is' (wt_guard' rfl rfl rfl) (beq_ft h10)) ?_
        refine sx_skip' rfl rfl (wt_is' (wt_guard' rfl rfl rfl) (beq_ft h10)) ?_
        refine sx_rd' (rd_pick_false' rfl h10 rfl) rfl rfl (wt_none' rfl) ?_
        refine sx_nil' ?_
        show TX E K45 _
        exact tx_pick' [2] (sub_cons rfl (sub_cons rfl (sub_cons rfl sub_nil))) (by decide) (pick_cons rfl pick_nil) (hK45 false hp)

def spec_Dyadic_Mul (k : Nat) (a0_0 : Bool) (a0_1 : List Int) (a0_2 : Int) (a1_0 : Bool) (a1_1 : List Int) (a1_2 : Int) : Option (Bool × (List Int) × Int) :=
  (spec_Whole_Mul k a0_0 a0_1 a1_0 a1_1) >>= fun r9 =>
  some (r9.1, r9.2, iadd .i64 a0_2 a1_2)

theorem spec_Dyadic_Mul_sim {k : Nat}  (a0_0 : Bool) (a0_1 : List Int) (a0_2 : Int) (a1_0 : Bool) (a1_1 : List Int) (a1_2 : Int) {out : Bool × (List Int) × Int} (hp : spec_Dyadic_Mul k a0_0 a0_1 a0_2 a1_0 a1_1 a1_2 = some out) : Go.Sx.Fn Try.prog 47 [(Ag [(Vl (.bool a0_0)), (Sl (Ki .u32) a0_1), (Vl (.int .i64 a0_2))]), (Ag [(Vl (.bool a1_0)), (Sl (Ki .u32) a1_1), (Vl (.int .i64 a1_2))])] [] (fun w : Unit => (Ag [(Vl (.bool out.1)), (Sl (Ki .u32) out.2.1), (Vl (.int .i64 out.2.2))])) (fun w => []) := by
  unfold spec_Dyadic_Mul at hp
  refine fn_of Try.func47 rfl Try.ntmps47 rfl fun E hM => ?_
  refine cx_seq' fun K1 hK1 => ?_
  refine cx_region' ?_
  refine sx_ox' (ox_box' rfl (lv_ag _) rfl rfl) (wt_none' rfl) fun q2 => ?_
  refine sx_ox' (ox_box' rfl (lv_ag _) rfl rfl) (wt_none' rfl) fun q3 => ?_
  refine sx_ox' (ox_alloc' info40 rfl rfl rfl rfl (l := [(Vl (.bool false)), (Vl (.slice none 0 0)), (Vl (.int .i64 0))]) rfl) (wt_none' rfl) fun q4 => ?_
  refine sx_nil' ?_
  show TX E K1 _
  refine tx_k' hK1 ?_
  refine cx_seq' fun K2 hK2 => ?_
  refine cx_plan' [] [(11, 1)] [(0, 1), (1, 1), (2, 1), (3, 1), (5, 1), (6, 1), (7, 1), (8, 1), (9, 1), (4, 0), (10, 1), (11, 0)] mixed (by kernel_rfl) ?_
  refine px_rd' rfl (rd_field0' rfl Try.underlying40 rfl info38 rfl) rfl rfl (wt_none' rfl) ?_
  refine px_rd' rfl (rd_load_agg' (i := 2) (o := 0) (nn := 2) rfl ⟨rfl, rfl, rfl, rfl⟩ rfl agg38 (l' := [(Vl (.bool a0_0)), (Sl (Ki .u32) a0_1)]) rfl) rfl rfl (wt_none' rfl) ?_
  refine px_rd' rfl (rd_field0' rfl Try.underlying40 rfl info38 rfl) rfl rfl (wt_none' rfl) ?_
  refine px_rd' rfl (rd_load_agg' (i := 1) (o := 0) (nn := 2) rfl ⟨rfl, rfl, rfl, rfl⟩ rfl agg38 (l' := [(Vl (.bool a1_0)), (Sl (Ki .u32) a1_1)]) rfl) rfl rfl (wt_none' rfl) ?_
  refine px_rd' rfl (rd_field' (off := 2) rfl Try.underlying40 rfl info3 rfl) rfl rfl (wt_none' rfl) ?_
  refine px_rd' rfl (rd_load' (i := 2) (o := 2) rfl ⟨rfl, rfl, rfl, rfl⟩ rfl flat3) rfl rfl (wt_none' rfl) ?_
  refine px_rd' rfl (rd_field' (off := 2) rfl Try.underlying40 rfl info3 rfl) rfl rfl (wt_none' rfl) ?_
  refine px_rd' rfl (rd_load' (i := 1) (o := 2) rfl ⟨rfl, rfl, rfl, rfl⟩ rfl flat3) rfl rfl (wt_none' rfl) ?_
  refine px_rd' rfl (rd_bin' rfl rfl eg_int ru_add) rfl rfl (wt_none' rfl) ?_
  obtain ⟨r9, hr9, hp⟩ := bind_some hp
  refine px_ox' rfl (ox_calln' (ent_fn' Try.func94 isn94 rfl rfl) (spec_Whole_Mul_sim _ _ _ _ hr9 : Go.Sx.Fn Try.prog 94 [(Ag [(Vl (.bool a0_0)), (Sl (Ki .u32) a0_1)]), (Ag [(Vl (.bool a1_0)), (Sl (Ki .u32) a1_1)])] [] (fun x : Unit => (Ag [(Vl (.bool r9.1)), (Sl (Ki .u32) r9.2)])) (fun x => [])) (Hn := fun x : Unit => [⟨.pointer (some q4), [(Vl (.bool false)), (Vl (.slice none 0 0)), (Vl (.int .i64 0))], 40, none⟩, ⟨.pointer (some q3), [(Vl (.bool a1_0)), (Sl (Ki .u32) a1_1), (Vl (.int .i64 a1_2))], 40, none⟩, ⟨.pointer (some q2), [(Vl (.bool a0_0)), (Sl (Ki .u32) a0_1), (Vl (.int .i64 a0_2))], 40, none⟩]) (fun _ => rfl) rfl rfl) rfl bs_nil (wt_none' rfl) fun ⟨⟩ => ?_
  refine px_rd' rfl (rd_build' (pls := [(0, 2), (2, 1)]) (qs := [(0, [(Vl (.bool r9.1)), (Sl (Ki .u32) r9.2)]), (1, [(Vl (.int .i64 (iadd .i64 a0_2 a1_2)))])]) (r := [(Vl (.bool r9.1)), (Sl (Ki .u32) r9.2), (Vl (.int .i64 (iadd .i64 a0_2 a1_2)))]) ⟨rfl, ⟨_, rfl, (lv_ag _)⟩, ⟨rfl, ⟨_, rfl, (lv_vl rfl rfl)⟩, trivial⟩⟩ Try.underlying40 has40 places40 info40 rfl rfl rfl) rfl rfl (wt_none' rfl) ?_
  refine px_oxv' rfl (oxv_store (i := 0) (o := 0) rfl rfl (lv_ag _) ⟨rfl, rfl, rfl, rfl⟩ rfl info40 rfl (H' := [⟨.pointer (some q4), [(Vl (.bool r9.1)), (Sl (Ki .u32) r9.2), (Vl (.int .i64 (iadd .i64 a0_2 a1_2)))], 40, none⟩, ⟨.pointer (some q3), [(Vl (.bool a1_0)), (Sl (Ki .u32) a1_1), (Vl (.int .i64 a1_2))], 40, none⟩, ⟨.pointer (some q2), [(Vl (.bool a0_0)), (Sl (Ki .u32) a0_1), (Vl (.int .i64 a0_2))], 40, none⟩]) rfl) rfl rfl bo_nil (wt_none' rfl) fun _ => ?_
  refine px_nil' ?_
  show TX E K2 _
  refine tx_k' hK2 ?_
  refine cx_retc' ?_
  replace hp := Option.some.inj hp
  subst hp
  refine tx_pick' (L' := [(4, (Vl (.pointer (some q4))))]) (H' := [⟨.pointer (some q4), [(Vl (.bool r9.1)), (Sl (Ki .u32) r9.2), (Vl (.int .i64 (iadd .i64 a0_2 a1_2)))], 40, none⟩]) [0] (sub_cons rfl sub_nil) (by decide) (pick_cons rfl pick_nil) ?_
  exact tx_ret1' Try.results47 rfl () (rv_cell_agg' (i := 0) (o := 0) (nn := 3) rfl ⟨rfl, rfl, rfl, rfl⟩ rfl agg40 rfl) (List.nil_sublist _)

def spec_Whole_Minus_j1 (k : Nat) (a0_1 : List Int) (x1 : Bool) : Option (Bool × (List Int)) :=
  some (x1, a0_1)
def spec_Whole_Minus (k : Nat) (a0_0 : Bool) (a0_1 : List Int) : Option (Bool × (List Int)) :=
  br (!a0_0)
    (spec_Whole_Minus_j1 k a0_1 (decide (0 < (a0_1.length : Int))))
    (spec_Whole_Minus_j1 k a0_1 false)

theorem spec_Whole_Minus_sim {k : Nat}  (a0_0 : Bool) (a0_1 : List Int) {out : Bool × (List Int)} (hp : spec_Whole_Minus k a0_0 a0_1 = some out) : Go.Sx.Fn Try.prog 136 [(Ag [(Vl (.bool a0_0)), (Sl (Ki .u32) a0_1)])] [] (fun w : Unit => (Ag [(Vl (.bool out.1)), (Sl (Ki .u32) out.2)])) (fun w => []) := by
  unfold spec_Whole_Minus at hp
  refine fn_of Try.func136 rfl Try.ntmps136 rfl fun E hM => ?_
  refine cx_seq' fun K1 hK1 => ?_
  refine cx_region' ?_
  refine sx_ox' (ox_box' rfl (lv_ag _) rfl rfl) (wt_none' rfl) fun q1 => ?_
  refine sx_ox' (ox_alloc' info38 rfl rfl rfl rfl (l := [(Vl (.bool false)), (Vl (.slice none 0 0))]) rfl) (wt_none' rfl) fun q2 => ?_
  refine sx_nil' ?_
  show TX E K1 _
  refine tx_k' hK1 ?_
  refine cx_seq' fun K2 hK2 => ?_
  refine cx_region' ?_
  refine sx_rd' (rd_field0' rfl Try.underlying38 rfl info4 rfl) rfl rfl (wt_none' rfl) ?_
  refine sx_rd' (rd_load' (i := 1) (o := 0) rfl ⟨rfl, rfl, rfl, rfl⟩ rfl flat4) rfl rfl (wt_none' rfl) ?_
  refine sx_rd' (rd_un' rfl ru_not) rfl rfl (wt_none' rfl) ?_
  refine sx_rd' (rd_move' rfl) rfl rfl (wt_none' rfl) ?_
  refine sx_cutn' 5 (fun (v1 : Bool) => (⟨15, [], [(1, (Vl (.pointer (some q1)))), (2, (Vl (.pointer (some q2)))), (11, (Vl (.bool v1)))], [⟨.pointer (some q1), [(Vl (.bool a0_0)), (Sl (Ki .u32) a0_1)], 38, none⟩, ⟨.pointer (some q2), [(Vl (.bool false)), (Vl (.slice none 0 0))], 38, none⟩]⟩ : St)) (fun (v1 : Bool) => spec_Whole_Minus_j1 k a0_1 v1 = some out) ?_ ?_
  · rintro x1 hp
    replace hp : spec_Whole_Minus_j1 k a0_1 x1 = some out := hp
    unfold spec_Whole_Minus_j1 at hp
    refine sx_rd' (rd_field' (off := 1) rfl Try.underlying38 rfl info36 rfl) rfl rfl (wt_none' rfl) ?_
    refine sx_rd' (rd_load' (i := 0) (o := 1) rfl ⟨rfl, rfl, rfl, rfl⟩ rfl flat36) rfl rfl (wt_none' rfl) ?_
    refine sx_rd' (rd_build' (pls := [(0, 1), (1, 1)]) (qs := [(0, [(Vl (.bool x1))]), (1, [(Sl (Ki .u32) a0_1)])]) (r := [(Vl (.bool x1)), (Sl (Ki .u32) a0_1)]) ⟨rfl, ⟨_, rfl, (lv_vl rfl rfl)⟩, ⟨rfl, ⟨_, rfl, (lv_sl _ _)⟩, trivial⟩⟩ Try.underlying38 has38 places38 info38 rfl rfl rfl) rfl rfl (wt_none' rfl) ?_
    refine sx_ox' (ox_store' (i := 1) (o := 0) rfl rfl (lv_ag _) ⟨rfl, rfl, rfl, rfl⟩ rfl info38 rfl (H' := [⟨.pointer (some q1), [(Vl (.bool a0_0)), (Sl (Ki .u32) a0_1)], 38, none⟩, ⟨.pointer (some q2), [(Vl (.bool x1)), (Sl (Ki .u32) a0_1)], 38, none⟩]) rfl) (wt_none' rfl) fun _ => ?_
    refine sx_nil' ?_
    show TX E K2 _
    refine tx_k' hK2 ?_
    refine cx_retc' ?_
    replace hp := Option.some.inj hp
    subst hp
    refine tx_pick' (L' := [(2, (Vl (.pointer (some q2))))]) (H' := [⟨.pointer (some q2), [(Vl (.bool x1)), (Sl (Ki .u32) a0_1)], 38, none⟩]) [1] (sub_cons rfl sub_nil) (by decide) (pick_cons rfl pick_nil) ?_
    exact tx_ret1' Try.results136 rfl () (rv_cell_agg' (i := 0) (o := 0) (nn := 2) rfl ⟨rfl, rfl, rfl, rfl⟩ rfl agg38 rfl) (List.nil_sublist _)
  · intro K3 hK3
    rcases br_cases hp with ⟨h1, hp⟩ | ⟨h1, hp⟩
    · refine sx_rd' (rd_field' (off := 1) rfl Try.underlying38 rfl info36 rfl) rfl rfl (wt_is' (wt_guard' rfl rfl rfl) (beq_tt h1)) ?_
      refine sx_rd' (rd_load' (i := 1) (o := 1) rfl ⟨rfl, rfl, rfl, rfl⟩ rfl flat36) rfl rfl (wt_is' (wt_guard' rfl rfl rfl) (beq_tt h1)) ?_
      refine sx_rd' (rd_len' rfl Try.underlying36) rfl rfl (wt_is' (wt_guard' rfl rfl rfl) (beq_tt h1)) ?_
      refine sx_rd' (rd_bin' rfl rfl eg_int ru_gtr) rfl rfl (wt_is' (wt_guard' rfl rfl rfl) (beq_tt h1)) ?_
      refine sx_rd' (rd_pick_true' rfl h1 rfl) rfl rfl (wt_none' rfl) ?_
      refine sx_nil' ?_
      show TX E K3 _
      exact tx_pick' [1, 0] (sub_cons rfl (sub_cons rfl (sub_cons rfl sub_nil))) (by decide) (pick_cons rfl (pick_cons rfl pick_nil)) (hK3 (decide (0 < (a0_1.length : Int))) hp)
    · refine sx_skip' rfl rfl (wt_is' (wt_guard' rfl rfl rfl) (beq_ft h1)) ?_
      refine sx_skip' rfl rfl (wt_is' (wt_guard' rfl rfl rfl) (beq_ft h1)) ?_
      refine sx_skip' rfl rfl (wt_is' (wt_guard' rfl rfl rfl) (beq_ft h1)) ?_
      refine sx_skip' rfl rfl (wt_is' (wt_guard' rfl rfl rfl) (beq_ft h1)) ?_
      refine sx_rd' (rd_pick_false' rfl h1 rfl) rfl rfl (wt_none' rfl) ?_
      refine sx_nil' ?_
      show TX E K3 _
      exact tx_pick' [1, 0] (sub_cons rfl (sub_cons rfl (sub_cons rfl sub_nil))) (by decide) (pick_cons rfl (pick_cons rfl pick_nil)) (hK3 false hp)

def spec_Dyadic_Minus (k : Nat) (a0_0 : Bool) (a0_1 : List Int) (a0_2 : Int) : Option (Bool × (List Int) × Int) :=
  (spec_Whole_Minus k a0_0 a0_1) >>= fun r5 =>
  some (r5.1, r5.2, a0_2)

theorem spec_Dyadic_Minus_sim {k : Nat}  (a0_0 : Bool) (a0_1 : List Int) (a0_2 : Int) {out : Bool × (List Int) × Int} (hp : spec_Dyadic_Minus k a0_0 a0_1 a0_2 = some out) : Go.Sx.Fn Try.prog 95 [(Ag [(Vl (.bool a0_0)), (Sl (Ki .u32) a0_1), (Vl (.int .i64 a0_2))])] [] (fun w : Unit => (Ag [(Vl (.bool out.1)), (Sl (Ki .u32) out.2.1), (Vl (.int .i64 out.2.2))])) (fun w => []) := by
  unfold spec_Dyadic_Minus at hp
  refine fn_of Try.func95 rfl Try.ntmps95 rfl fun E hM => ?_
  refine cx_seq' fun K1 hK1 => ?_
  refine cx_region' ?_
  refine sx_ox' (ox_box' rfl (lv_ag _) rfl rfl) (wt_none' rfl) fun q1 => ?_
  refine sx_ox' (ox_alloc' info40 rfl rfl rfl rfl (l := [(Vl (.bool false)), (Vl (.slice none 0 0)), (Vl (.int .i64 0))]) rfl) (wt_none' rfl) fun q2 => ?_
  refine sx_nil' ?_
  show TX E K1 _
  refine tx_k' hK1 ?_
  refine cx_seq' fun K2 hK2 => ?_
  refine cx_plan' [] [(6, 1)] [(0, 1), (1, 1), (3, 1), (4, 1), (2, 0), (5, 1), (6, 0)] mixed (by kernel_rfl) ?_
  refine px_rd' rfl (rd_field0' rfl Try.underlying40 rfl info38 rfl) rfl rfl (wt_none' rfl) ?_
  refine px_rd' rfl (rd_load_agg' (i := 1) (o := 0) (nn := 2) rfl ⟨rfl, rfl, rfl, rfl⟩ rfl agg38 (l' := [(Vl (.bool a0_0)), (Sl (Ki .u32) a0_1)]) rfl) rfl rfl (wt_none' rfl) ?_
  refine px_rd' rfl (rd_field' (off := 2) rfl Try.underlying40 rfl info3 rfl) rfl rfl (wt_none' rfl) ?_
  refine px_rd' rfl (rd_load' (i := 1) (o := 2) rfl ⟨rfl, rfl, rfl, rfl⟩ rfl flat3) rfl rfl (wt_none' rfl) ?_
  obtain ⟨r5, hr5, hp⟩ := bind_some hp
  refine px_ox' rfl (ox_calln' (ent_fn' Try.func136 isn136 rfl rfl) (spec_Whole_Minus_sim _ _ hr5 : Go.Sx.Fn Try.prog 136 [(Ag [(Vl (.bool a0_0)), (Sl (Ki .u32) a0_1)])] [] (fun x : Unit => (Ag [(Vl (.bool r5.1)), (Sl (Ki .u32) r5.2)])) (fun x => [])) (Hn := fun x : Unit => [⟨.pointer (some q2), [(Vl (.bool false)), (Vl (.slice none 0 0)), (Vl (.int .i64 0))], 40, none⟩, ⟨.pointer (some q1), [(Vl (.bool a0_0)), (Sl (Ki .u32) a0_1), (Vl (.int .i64 a0_2))], 40, none⟩]) (fun _ => rfl) rfl rfl) rfl bs_nil (wt_none' rfl) fun ⟨⟩ => ?_
  refine px_rd' rfl (rd_build' (pls := [(0, 2), (2, 1)]) (qs := [(0, [(Vl (.bool r5.1)), (Sl (Ki .u32) r5.2)]), (1, [(Vl (.int .i64 a0_2))])]) (r := [(Vl (.bool r5.1)), (Sl (Ki .u32) r5.2), (Vl (.int .i64 a0_2))]) ⟨rfl, ⟨_, rfl, (lv_ag _)⟩, ⟨rfl, ⟨_, rfl, (lv_vl rfl rfl)⟩, trivial⟩⟩ Try.underlying40 has40 places40 info40 rfl rfl rfl) rfl rfl (wt_none' rfl) ?_
  refine px_oxv' rfl (oxv_store (i := 0) (o := 0) rfl rfl (lv_ag _) ⟨rfl, rfl, rfl, rfl⟩ rfl info40 rfl (H' := [⟨.pointer (some q2), [(Vl (.bool r5.1)), (Sl (Ki .u32) r5.2), (Vl (.int .i64 a0_2))], 40, none⟩, ⟨.pointer (some q1), [(Vl (.bool a0_0)), (Sl (Ki .u32) a0_1), (Vl (.int .i64 a0_2))], 40, none⟩]) rfl) rfl rfl bo_nil (wt_none' rfl) fun _ => ?_
  refine px_nil' ?_
  show TX E K2 _
  refine tx_k' hK2 ?_
  refine cx_retc' ?_
  replace hp := Option.some.inj hp
  subst hp
  refine tx_pick' (L' := [(2, (Vl (.pointer (some q2))))]) (H' := [⟨.pointer (some q2), [(Vl (.bool r5.1)), (Sl (Ki .u32) r5.2), (Vl (.int .i64 a0_2))], 40, none⟩]) [0] (sub_cons rfl sub_nil) (by decide) (pick_cons rfl pick_nil) ?_
  exact tx_ret1' Try.results95 rfl () (rv_cell_agg' (i := 0) (o := 0) (nn := 3) rfl ⟨rfl, rfl, rfl, rfl⟩ rfl agg40 rfl) (List.nil_sublist _)

def spec_Dyadic_Sub (k : Nat) (a0_0 : Bool) (a0_1 : List Int) (a0_2 : Int) (a1_0 : Bool) (a1_1 : List Int) (a1_2 : Int) : Option (Bool × (List Int) × Int) :=
  (spec_Dyadic_Minus k a1_0 a1_1 a1_2) >>= fun r7 =>
  (spec_Dyadic_Add k a0_0 a0_1 a0_2 r7.1 r7.2.1 r7.2.2) >>= fun r8 =>
  some (r8.1, r8.2.1, r8.2.2)

theorem spec_Dyadic_Sub_sim {k : Nat}  (a0_0 : Bool) (a0_1 : List Int) (a0_2 : Int) (a1_0 : Bool) (a1_1 : List Int) (a1_2 : Int) {out : Bool × (List Int) × Int} (hp : spec_Dyadic_Sub k a0_0 a0_1 a0_2 a1_0 a1_1 a1_2 = some out) : Go.Sx.Fn Try.prog 48 [(Ag [(Vl (.bool a0_0)), (Sl (Ki .u32) a0_1), (Vl (.int .i64 a0_2))]), (Ag [(Vl (.bool a1_0)), (Sl (Ki .u32) a1_1), (Vl (.int .i64 a1_2))])] [] (fun w : Unit => (Ag [(Vl (.bool out.1)), (Sl (Ki .u32) out.2.1), (Vl (.int .i64 out.2.2))])) (fun w => []) := by
  unfold spec_Dyadic_Sub at hp
  refine fn_of Try.func48 rfl Try.ntmps48 rfl fun E hM => ?_
  refine cx_seq' fun K1 hK1 => ?_
  refine cx_region' ?_
  refine sx_ox' (ox_box' rfl (lv_ag _) rfl rfl) (wt_none' rfl) fun q2 => ?_
  refine sx_ox' (ox_box' rfl (lv_ag _) rfl rfl) (wt_none' rfl) fun q3 => ?_
  refine sx_ox' (ox_alloc' info40 rfl rfl rfl rfl (l := [(Vl (.bool false)), (Vl (.slice none 0 0)), (Vl (.int .i64 0))]) rfl) (wt_none' rfl) fun q4 => ?_
  refine sx_nil' ?_
  show TX E K1 _
  refine tx_k' hK1 ?_
  refine cx_seq' fun K2 hK2 => ?_
  refine cx_plan' [] [(4, 1)] [(0, 1), (1, 1), (2, 0), (3, 0), (4, 0)] mixed (by kernel_rfl) ?_
  refine px_rd' rfl (rd_load_agg' (i := 2) (o := 0) (nn := 3) rfl ⟨rfl, rfl, rfl, rfl⟩ rfl agg40 (l' := [(Vl (.bool a0_0)), (Sl (Ki .u32) a0_1), (Vl (.int .i64 a0_2))]) rfl) rfl rfl (wt_none' rfl) ?_
  refine px_rd' rfl (rd_load_agg' (i := 1) (o := 0) (nn := 3) rfl ⟨rfl, rfl, rfl, rfl⟩ rfl agg40 (l' := [(Vl (.bool a1_0)), (Sl (Ki .u32) a1_1), (Vl (.int .i64 a1_2))]) rfl) rfl rfl (wt_none' rfl) ?_
  obtain ⟨r7, hr7, hp⟩ := bind_some hp
  refine px_ox' rfl (ox_calln' (ent_fn' Try.func95 isn95 rfl rfl) (spec_Dyadic_Minus_sim _ _ _ hr7 : Go.Sx.Fn Try.prog 95 [(Ag [(Vl (.bool a1_0)), (Sl (Ki .u32) a1_1), (Vl (.int .i64 a1_2))])] [] (fun x : Unit => (Ag [(Vl (.bool r7.1)), (Sl (Ki .u32) r7.2.1), (Vl (.int .i64 r7.2.2))])) (fun x => [])) (Hn := fun x : Unit => [⟨.pointer (some q4), [(Vl (.bool false)), (Vl (.slice none 0 0)), (Vl (.int .i64 0))], 40, none⟩, ⟨.pointer (some q3), [(Vl (.bool a1_0)), (Sl (Ki .u32) a1_1), (Vl (.int .i64 a1_2))], 40, none⟩, ⟨.pointer (some q2), [(Vl (.bool a0_0)), (Sl (Ki .u32) a0_1), (Vl (.int .i64 a0_2))], 40, none⟩]) (fun _ => rfl) rfl rfl) rfl bs_nil (wt_none' rfl) fun ⟨⟩ => ?_
  obtain ⟨r8, hr8, hp⟩ := bind_some hp
  refine px_ox' rfl (ox_calln' (ent_fn' Try.func65 isn65 rfl rfl) (spec_Dyadic_Add_sim _ _ _ _ _ _ hr8 : Go.Sx.Fn Try.prog 65 [(Ag [(Vl (.bool a0_0)), (Sl (Ki .u32) a0_1), (Vl (.int .i64 a0_2))]), (Ag [(Vl (.bool r7.1)), (Sl (Ki .u32) r7.2.1), (Vl (.int .i64 r7.2.2))])] [] (fun x : Unit => (Ag [(Vl (.bool r8.1)), (Sl (Ki .u32) r8.2.1), (Vl (.int .i64 r8.2.2))])) (fun x => [])) (Hn := fun x : Unit => [⟨.pointer (some q4), [(Vl (.bool false)), (Vl (.slice none 0 0)), (Vl (.int .i64 0))], 40, none⟩, ⟨.pointer (some q3), [(Vl (.bool a1_0)), (Sl (Ki .u32) a1_1), (Vl (.int .i64 a1_2))], 40, none⟩, ⟨.pointer (some q2), [(Vl (.bool a0_0)), (Sl (Ki .u32) a0_1), (Vl (.int .i64 a0_2))], 40, none⟩]) (fun _ => rfl) rfl rfl) rfl bs_nil (wt_none' rfl) fun ⟨⟩ => ?_
  refine px_oxv' rfl (oxv_store (i := 0) (o := 0) rfl rfl (lv_ag _) ⟨rfl, rfl, rfl, rfl⟩ rfl info40 rfl (H' := [⟨.pointer (some q4), [(Vl (.bool r8.1)), (Sl (Ki .u32) r8.2.1), (Vl (.int .i64 r8.2.2))], 40, none⟩, ⟨.pointer (some q3), [(Vl (.bool a1_0)), (Sl (Ki .u32) a1_1), (Vl (.int .i64 a1_2))], 40, none⟩, ⟨.pointer (some q2), [(Vl (.bool a0_0)), (Sl (Ki .u32) a0_1), (Vl (.int .i64 a0_2))], 40, none⟩]) rfl) rfl rfl bo_nil (wt_none' rfl) fun _ => ?_
  refine px_nil' ?_
  show TX E K2 _
  refine tx_k' hK2 ?_
  refine cx_retc' ?_
  replace hp := Option.some.inj hp
  subst hp
  refine tx_pick' (L' := [(4, (Vl (.pointer (some q4))))]) (H' := [⟨.pointer (some q4), [(Vl (.bool r8.1)), (Sl (Ki .u32) r8.2.1), (Vl (.int .i64 r8.2.2))], 40, none⟩]) [0] (sub_cons rfl sub_nil) (by decide) (pick_cons rfl pick_nil) ?_
  exact tx_ret1' Try.results48 rfl () (rv_cell_agg' (i := 0) (o := 0) (nn := 3) rfl ⟨rfl, rfl, rfl, rfl⟩ rfl agg40 rfl) (List.nil_sublist _)

def spec_Dyadic_Abs (k : Nat) (a0_0 : Bool) (a0_1 : List Int) (a0_2 : Int) : Option (Bool × (List Int) × Int) :=
  (spec_Dyadic_Sign k a0_0 a0_1 a0_2) >>= fun r4 =>
  br (decide (r4 < 0))
    ((spec_Dyadic_Minus k a0_0 a0_1 a0_2) >>= fun r7 =>
    some (r7.1, r7.2.1, r7.2.2))
    (some (a0_0, a0_1, a0_2))

theorem spec_Dyadic_Abs_sim {k : Nat}  (a0_0 : Bool) (a0_1 : List Int) (a0_2 : Int) {out : Bool × (List Int) × Int} (hp : spec_Dyadic_Abs k a0_0 a0_1 a0_2 = some out) : Go.Sx.Fn Try.prog 122 [(Ag [(Vl (.bool a0_0)), (Sl (Ki .u32) a0_1), (Vl (.int .i64 a0_2))])] [] (fun w : Unit => (Ag [(Vl (.bool out.1)), (Sl (Ki .u32) out.2.1), (Vl (.int .i64 out.2.2))])) (fun w => []) := by
  unfold spec_Dyadic_Abs at hp
  refine fn_of Try.func122 rfl Try.ntmps122 rfl fun E hM => ?_
  refine cx_seq' fun K1 hK1 => ?_
  refine cx_region' ?_
  refine sx_ox' (ox_box' rfl (lv_ag _) rfl rfl) (wt_none' rfl) fun q1 => ?_
  refine sx_ox' (ox_alloc' info40 rfl rfl rfl rfl (l := [(Vl (.bool false)), (Vl (.slice none 0 0)), (Vl (.int .i64 0))]) rfl) (wt_none' rfl) fun q2 => ?_
  refine sx_nil' ?_
  show TX E K1 _
  refine tx_k' hK1 ?_
  refine cx_seq' fun K2 hK2 => ?_
  refine cx_seq' fun K3 hK3 => ?_
  refine cx_region' ?_
  refine sx_rd' (rd_load_agg' (i := 1) (o := 0) (nn := 3) rfl ⟨rfl, rfl, rfl, rfl⟩ rfl agg40 (l' := [(Vl (.bool a0_0)), (Sl (Ki .u32) a0_1), (Vl (.int .i64 a0_2))]) rfl) rfl rfl (wt_none' rfl) ?_
  obtain ⟨r4, hr4, hp⟩ := bind_some hp
  refine sx_ox' (ox_calln' (ent_fn' Try.func49 isn49 rfl rfl) (spec_Dyadic_Sign_sim _ _ _ hr4 : Go.Sx.Fn Try.prog 49 [(Ag [(Vl (.bool a0_0)), (Sl (Ki .u32) a0_1), (Vl (.int .i64 a0_2))])] [] (fun x : Unit => (Vl (.int .i64 r4))) (fun x => [])) (Hn := fun x : Unit => [⟨.pointer (some q2), [(Vl (.bool false)), (Vl (.slice none 0 0)), (Vl (.int .i64 0))], 40, none⟩, ⟨.pointer (some q1), [(Vl (.bool a0_0)), (Sl (Ki .u32) a0_1), (Vl (.int .i64 a0_2))], 40, none⟩]) (fun _ => rfl) rfl rfl) (wt_none' rfl) fun ⟨⟩ => ?_
  refine sx_rd' (rd_bin' rfl rfl eg_int ru_lss) rfl rfl (wt_none' rfl) ?_
  refine sx_nil' ?_
  show TX E K3 _
  refine tx_k' hK3 ?_
  refine cx_cond' rfl (fun h1 => ?_) (fun h1 => ?_)
  · replace hp := (br_t h1).symm.trans hp
    refine cx_seq' fun K4 hK4 => ?_
    refine cx_region' ?_
    refine sx_rd' (rd_load_agg' (i := 1) (o := 0) (nn := 3) rfl ⟨rfl, rfl, rfl, rfl⟩ rfl agg40 (l' := [(Vl (.bool a0_0)), (Sl (Ki .u32) a0_1), (Vl (.int .i64 a0_2))]) rfl) rfl rfl (wt_none' rfl) ?_
    obtain ⟨r7, hr7, hp⟩ := bind_some hp
    refine sx_ox' (ox_calln' (ent_fn' Try.func95 isn95 rfl rfl) (spec_Dyadic_Minus_sim _ _ _ hr7 : Go.Sx.Fn Try.prog 95 [(Ag [(Vl (.bool a0_0)), (Sl (Ki .u32) a0_1), (Vl (.int .i64 a0_2))])] [] (fun x : Unit => (Ag [(Vl (.bool r7.1)), (Sl (Ki .u32) r7.2.1), (Vl (.int .i64 r7.2.2))])) (fun x => [])) (Hn := fun x : Unit => [⟨.pointer (some q2), [(Vl (.bool false)), (Vl (.slice none 0 0)), (Vl (.int .i64 0))], 40, none⟩, ⟨.pointer (some q1), [(Vl (.bool a0_0)), (Sl (Ki .u32) a0_1), (Vl (.int .i64 a0_2))], 40, none⟩]) (fun _ => rfl) rfl rfl) (wt_none' rfl) fun ⟨⟩ => ?_
    refine sx_ox' (ox_store' (i := 0) (o := 0) rfl rfl (lv_ag _) ⟨rfl, rfl, rfl, rfl⟩ rfl info40 rfl (H' := [⟨.pointer (some q2), [(Vl (.bool r7.1)), (Sl (Ki .u32) r7.2.1), (Vl (.int .i64 r7.2.2))], 40, none⟩, ⟨.pointer (some q1), [(Vl (.bool a0_0)), (Sl (Ki .u32) a0_1), (Vl (.int .i64 a0_2))], 40, none⟩]) rfl) (wt_none' rfl) fun _ => ?_
    refine sx_nil' ?_
    show TX E K4 _
    refine tx_k' hK4 ?_
    refine cx_retc' ?_
    replace hp := Option.some.inj hp
    subst hp
    refine tx_pick' (L' := [(2, (Vl (.pointer (some q2))))]) (H' := [⟨.pointer (some q2), [(Vl (.bool r7.1)), (Sl (Ki .u32) r7.2.1), (Vl (.int .i64 r7.2.2))], 40, none⟩]) [0] (sub_cons rfl sub_nil) (by decide) (pick_cons rfl pick_nil) ?_
    exact tx_ret1' Try.results122 rfl () (rv_cell_agg' (i := 0) (o := 0) (nn := 3) rfl ⟨rfl, rfl, rfl, rfl⟩ rfl agg40 rfl) (List.nil_sublist _)
  · replace hp := (br_f h1).symm.trans hp
    refine cx_skip' ?_
    show TX E K2 _
    refine tx_k' hK2 ?_
    refine cx_seq' fun K5 hK5 => ?_
    refine cx_region' ?_
    refine sx_rd' (rd_load_agg' (i := 1) (o := 0) (nn := 3) rfl ⟨rfl, rfl, rfl, rfl⟩ rfl agg40 (l' := [(Vl (.bool a0_0)), (Sl (Ki .u32) a0_1), (Vl (.int .i64 a0_2))]) rfl) rfl rfl (wt_none' rfl) ?_
    refine sx_ox' (ox_store' (i := 0) (o := 0) rfl rfl (lv_ag _) ⟨rfl, rfl, rfl, rfl⟩ rfl info40 rfl (H' := [⟨.pointer (some q2), [(Vl (.bool a0_0)), (Sl (Ki .u32) a0_1), (Vl (.int .i64 a0_2))], 40, none⟩, ⟨.pointer (some q1), [(Vl (.bool a0_0)), (Sl (Ki .u32) a0_1), (Vl (.int .i64 a0_2))], 40, none⟩]) rfl) (wt_none' rfl) fun _ => ?_
    refine sx_nil' ?_
    show TX E K5 _
    refine tx_k' hK5 ?_
    refine cx_retc' ?_
    replace hp := Option.some.inj hp
    subst hp
    refine tx_pick' (L' := [(2, (Vl (.pointer (some q2))))]) (H' := [⟨.pointer (some q2), [(Vl (.bool a0_0)), (Sl (Ki .u32) a0_1), (Vl (.int .i64 a0_2))], 40, none⟩]) [0] (sub_cons rfl sub_nil) (by decide) (pick_cons rfl pick_nil) ?_
    exact tx_ret1' Try.results122 rfl () (rv_cell_agg' (i := 0) (o := 0) (nn := 3) rfl ⟨rfl, rfl, rfl, rfl⟩ rfl agg40 rfl) (List.nil_sublist _)

def spec_Dyadic_Shift (k : Nat) (a0_0 : Bool) (a0_1 : List Int) (a0_2 : Int) (a1 : Int) : Option (Bool × (List Int) × Int) :=
  some (a0_0, a0_1, iadd .i64 a0_2 a1)

theorem spec_Dyadic_Shift_sim {k : Nat}  (a0_0 : Bool) (a0_1 : List Int) (a0_2 : Int) (a1 : Int) {out : Bool × (List Int) × Int} (hp : spec_Dyadic_Shift k a0_0 a0_1 a0_2 a1 = some out) : Go.Sx.Fn Try.prog 123 [(Ag [(Vl (.bool a0_0)), (Sl (Ki .u32) a0_1), (Vl (.int .i64 a0_2))]), (Vl (.int .i64 a1))] [] (fun w : Unit => (Ag [(Vl (.bool out.1)), (Sl (Ki .u32) out.2.1), (Vl (.int .i64 out.2.2))])) (fun w => []) := by
  unfold spec_Dyadic_Shift at hp
  refine fn_of Try.func123 rfl Try.ntmps123 rfl fun E hM => ?_
  refine cx_seq' fun K1 hK1 => ?_
  refine cx_region' ?_
  refine sx_ox' (ox_box' rfl (lv_ag _) rfl rfl) (wt_none' rfl) fun q2 => ?_
  refine sx_ox' (ox_alloc' info40 rfl rfl rfl rfl (l := [(Vl (.bool false)), (Vl (.slice none 0 0)), (Vl (.int .i64 0))]) rfl) (wt_none' rfl) fun q4 => ?_
  refine sx_nil' ?_
  show TX E K1 _
  refine tx_k' hK1 ?_
  refine cx_seq' fun K2 hK2 => ?_
  refine cx_region' ?_
  refine sx_rd' (rd_field0' rfl Try.underlying40 rfl info38 rfl) rfl rfl (wt_none' rfl) ?_
  refine sx_rd' (rd_load_agg' (i := 1) (o := 0) (nn := 2) rfl ⟨rfl, rfl, rfl, rfl⟩ rfl agg38 (l' := [(Vl (.bool a0_0)), (Sl (Ki .u32) a0_1)]) rfl) rfl rfl (wt_none' rfl) ?_
  refine sx_rd' (rd_field' (off := 2) rfl Try.underlying40 rfl info3 rfl) rfl rfl (wt_none' rfl) ?_
  refine sx_rd' (rd_load' (i := 1) (o := 2) rfl ⟨rfl, rfl, rfl, rfl⟩ rfl flat3) rfl rfl (wt_none' rfl) ?_
  refine sx_rd' (rd_move' rfl) rfl rfl (wt_none' rfl) ?_
  refine sx_rd' (rd_bin' rfl rfl eg_int ru_add) rfl rfl (wt_none' rfl) ?_
  refine sx_rd' (rd_build' (pls := [(0, 2), (2, 1)]) (qs := [(0, [(Vl (.bool a0_0)), (Sl (Ki .u32) a0_1)]), (1, [(Vl (.int .i64 (iadd .i64 a0_2 a1)))])]) (r := [(Vl (.bool a0_0)), (Sl (Ki .u32) a0_1), (Vl (.int .i64 (iadd .i64 a0_2 a1)))]) ⟨rfl, ⟨_, rfl, (lv_ag _)⟩, ⟨rfl, ⟨_, rfl, (lv_vl rfl rfl)⟩, trivial⟩⟩ Try.underlying40 has40 places40 info40 rfl rfl rfl) rfl rfl (wt_none' rfl) ?_
  refine sx_ox' (ox_store' (i := 0) (o := 0) rfl rfl (lv_ag _) ⟨rfl, rfl, rfl, rfl⟩ rfl info40 rfl (H' := [⟨.pointer (some q4), [(Vl (.bool a0_0)), (Sl (Ki .u32) a0_1), (Vl (.int .i64 (iadd .i64 a0_2 a1)))], 40, none⟩, ⟨.pointer (some q2), [(Vl (.bool a0_0)), (Sl (Ki .u32) a0_1), (Vl (.int .i64 a0_2))], 40, none⟩]) rfl) (wt_none' rfl) fun _ => ?_
  refine sx_nil' ?_
  show TX E K2 _
  refine tx_k' hK2 ?_
  refine cx_retc' ?_
  replace hp := Option.some.inj hp
  subst hp
  refine tx_pick' (L' := [(4, (Vl (.pointer (some q4))))]) (H' := [⟨.pointer (some q4), [(Vl (.bool a0_0)), (Sl (Ki .u32) a0_1), (Vl (.int .i64 (iadd .i64 a0_2 a1)))], 40, none⟩]) [0] (sub_cons rfl sub_nil) (by decide) (pick_cons rfl pick_nil) ?_
  exact tx_ret1' Try.results123 rfl () (rv_cell_agg' (i := 0) (o := 0) (nn := 3) rfl ⟨rfl, rfl, rfl, rfl⟩ rfl agg40 rfl) (List.nil_sublist _)

def spec_Dyadic_Cmp (k : Nat) (a0_0 : Bool) (a0_1 : List Int) (a0_2 : Int) (a1_0 : Bool) (a1_1 : List Int) (a1_2 : Int) : Option (Int) :=
  (spec_Dyadic_Sub k a0_0 a0_1 a0_2 a1_0 a1_1 a1_2) >>= fun r7 =>
  (spec_Dyadic_Sign k r7.1 r7.2.1 r7.2.2) >>= fun r8 =>
  some r8

theorem spec_Dyadic_Cmp_sim {k : Nat}  (a0_0 : Bool) (a0_1 : List Int) (a0_2 : Int) (a1_0 : Bool) (a1_1 : List Int) (a1_2 : Int) {out : Int} (hp : spec_Dyadic_Cmp k a0_0 a0_1 a0_2 a1_0 a1_1 a1_2 = some out) : Go.Sx.Fn Try.prog 89 [(Ag [(Vl (.bool a0_0)), (Sl (Ki .u32) a0_1), (Vl (.int .i64 a0_2))]), (Ag [(Vl (.bool a1_0)), (Sl (Ki .u32) a1_1), (Vl (.int .i64 a1_2))])] [] (fun w : Unit => (Vl (.int .i64 out))) (fun w => []) := by
  unfold spec_Dyadic_Cmp at hp
  refine fn_of Try.func89 rfl Try.ntmps89 rfl fun E hM => ?_
  refine cx_seq' fun K1 hK1 => ?_
  refine cx_region' ?_
  refine sx_ox' (ox_box' rfl (lv_ag _) rfl rfl) (wt_none' rfl) fun q2 => ?_
  refine sx_ox' (ox_box' rfl (lv_ag _) rfl rfl) (wt_none' rfl) fun q3 => ?_
  refine sx_rd' (rd_assign' rfl) rfl rfl (wt_none' rfl) ?_
  refine sx_nil' ?_
  show TX E K1 _
  refine tx_k' hK1 ?_
  refine cx_seq' fun K2 hK2 => ?_
  refine cx_region' ?_
  refine sx_rd' (rd_load_agg' (i := 1) (o := 0) (nn := 3) rfl ⟨rfl, rfl, rfl, rfl⟩ rfl agg40 (l' := [(Vl (.bool a0_0)), (Sl (Ki .u32) a0_1), (Vl (.int .i64 a0_2))]) rfl) rfl rfl (wt_none' rfl) ?_
  refine sx_rd' (rd_load_agg' (i := 0) (o := 0) (nn := 3) rfl ⟨rfl, rfl, rfl, rfl⟩ rfl agg40 (l' := [(Vl (.bool a1_0)), (Sl (Ki .u32) a1_1), (Vl (.int .i64 a1_2))]) rfl) rfl rfl (wt_none' rfl) ?_
  obtain ⟨r7, hr7, hp⟩ := bind_some hp
  refine sx_ox' (ox_calln' (ent_fn' Try.func48 isn48 rfl rfl) (spec_Dyadic_Sub_sim _ _ _ _ _ _ hr7 : Go.Sx.Fn Try.prog 48 [(Ag [(Vl (.bool a0_0)), (Sl (Ki .u32) a0_1), (Vl (.int .i64 a0_2))]), (Ag [(Vl (.bool a1_0)), (Sl (Ki .u32) a1_1), (Vl (.int .i64 a1_2))])] [] (fun x : Unit => (Ag [(Vl (.bool r7.1)), (Sl (Ki .u32) r7.2.1), (Vl (.int .i64 r7.2.2))])) (fun x => [])) (Hn := fun x : Unit => [⟨.pointer (some q3), [(Vl (.bool a1_0)), (Sl (Ki .u32) a1_1), (Vl (.int .i64 a1_2))], 40, none⟩, ⟨.pointer (some q2), [(Vl (.bool a0_0)), (Sl (Ki .u32) a0_1), (Vl (.int .i64 a0_2))], 40, none⟩]) (fun _ => rfl) rfl rfl) (wt_none' rfl) fun ⟨⟩ => ?_
  obtain ⟨r8, hr8, hp⟩ := bind_some hp
  refine sx_ox' (ox_calln' (ent_fn' Try.func49 isn49 rfl rfl) (spec_Dyadic_Sign_sim _ _ _ hr8 : Go.Sx.Fn Try.prog 49 [(Ag [(Vl (.bool r7.1)), (Sl (Ki .u32) r7.2.1), (Vl (.int .i64 r7.2.2))])] [] (fun x : Unit => (Vl (.int .i64 r8))) (fun x => [])) (Hn := fun x : Unit => [⟨.pointer (some q3), [(Vl (.bool a1_0)), (Sl (Ki .u32) a1_1), (Vl (.int .i64 a1_2))], 40, none⟩, ⟨.pointer (some q2), [(Vl (.bool a0_0)), (Sl (Ki .u32) a0_1), (Vl (.int .i64 a0_2))], 40, none⟩]) (fun _ => rfl) rfl rfl) (wt_none' rfl) fun ⟨⟩ => ?_
  refine sx_rd' (rd_assign' rfl) rfl rfl (wt_none' rfl) ?_
  refine sx_nil' ?_
  show TX E K2 _
  refine tx_k' hK2 ?_
  refine cx_retc' ?_
  replace hp := Option.some.inj hp
  subst hp
  refine tx_pick' (L' := [(4, (Vl (.int .i64 r8)))]) (H' := []) [] (sub_cons rfl sub_nil) (by decide) pick_nil ?_
  exact tx_ret1' Try.results89 rfl () (rv_tmp' rfl) (List.Sublist.refl _)

def laws_nearRatio_j1 (k : Nat) (x1 : Bool) : Option (Bool) :=
  some x1
def laws_nearRatio (k : Nat) (a0 : Nat) (a1_0 : Bool) (a1_1 : List Int) (a1_2 : Int) (a1_3 : Bool) (a1_4 : List Int) (a1_5 : Int) (a2 : Int) : Option (Bool) :=
  (spec_Finite k a0) >>= fun r8 =>
  br r8
    ((spec_DyadicOf k a0) >>= fun r11 =>
    (spec_Dyadic_Mul k r11.1 r11.2.1 r11.2.2 a1_3 a1_4 a1_5) >>= fun r14 =>
    (spec_Dyadic_Sub k r14.1 r14.2.1 r14.2.2 a1_0 a1_1 a1_2) >>= fun r17 =>
    (spec_Dyadic_Abs k r17.1 r17.2.1 r17.2.2) >>= fun r18 =>
    (spec_Dyadic_Shift k a1_3 a1_4 a1_5 a2) >>= fun r22 =>
    (spec_Dyadic_Cmp k r18.1 r18.2.1 r18.2.2 r22.1 r22.2.1 r22.2.2) >>= fun r23 =>
    laws_nearRatio_j1 k (decide (r23 < 0)))
    (laws_nearRatio_j1 k false)

theorem laws_nearRatio_sim {k : Nat}  (a0 : Nat) (a1_0 : Bool) (a1_1 : List Int) (a1_2 : Int) (a1_3 : Bool) (a1_4 : List Int) (a1_5 : Int) (a2 : Int) {out : Bool} (hp : laws_nearRatio k a0 a1_0 a1_1 a1_2 a1_3 a1_4 a1_5 a2 = some out) : Go.Sx.Fn Try.prog 70 [(Vl (.float .f64 a0)), (Ag [(Vl (.bool a1_0)), (Sl (Ki .u32) a1_1), (Vl (.int .i64 a1_2)), (Vl (.bool a1_3)), (Sl (Ki .u32) a1_4), (Vl (.int .i64 a1_5))]), (Vl (.int .i64 a2))] [] (fun w : Unit => (Vl (.bool out))) (fun w => []) := by
  unfold laws_nearRatio at hp
  refine fn_of Try.func70 rfl Try.ntmps70 rfl fun E hM => ?_
  refine cx_seq' fun K1 hK1 => ?_
  refine cx_region' ?_
  refine sx_ox' (ox_box' rfl (lv_ag _) rfl rfl) (wt_none' rfl) fun q4 => ?_
  refine sx_rd' (rd_assign' rfl) rfl rfl (wt_none' rfl) ?_
  refine sx_nil' ?_
  show TX E K1 _
  refine tx_k' hK1 ?_
  refine cx_seq' fun K2 hK2 => ?_
  refine cx_plan' [] [] [(0, 1), (1, 0), (2, 1), (3, 1), (5, 1), (6, 1), (8, 1), (9, 1), (12, 1), (13, 1), (14, 1), (4, 0), (7, 0), (10, 0), (11, 0), (15, 0), (16, 0), (17, 1), (18, 1), (19, 1)] mixed (by kernel_rfl) ?_
  refine px_rd' rfl (rd_move' rfl) rfl rfl (wt_none' rfl) ?_
  obtain ⟨r8, hr8, hp⟩ := bind_some hp
  refine px_ox' rfl (ox_calln' (ent_fn' Try.func78 isn78 rfl rfl) (spec_Finite_sim _ hr8 : Go.Sx.Fn Try.prog 78 [(Vl (.float .f64 a0))] [] (fun x : Unit => (Vl (.bool r8))) (fun x => [])) (Hn := fun x : Unit => [⟨.pointer (some q4), [(Vl (.bool a1_0)), (Sl (Ki .u32) a1_1), (Vl (.int .i64 a1_2)), (Vl (.bool a1_3)), (Sl (Ki .u32) a1_4), (Vl (.int .i64 a1_5))], 42, none⟩]) (fun _ => rfl) rfl rfl) rfl bs_nil (wt_none' rfl) fun ⟨⟩ => ?_
  refine px_rd' rfl (rd_move' rfl) rfl rfl (wt_none' rfl) ?_
  refine px_cutn' 16 (fun (v1 : Bool) => (⟨26, [], [(25, (Vl (.bool v1)))], []⟩ : St)) (fun (v1 : Bool) => laws_nearRatio_j1 k v1 = some out) ?_ ?_
  · rintro x1 hp
    replace hp : laws_nearRatio_j1 k x1 = some out := hp
    unfold laws_nearRatio_j1 at hp
    refine px_rd' rfl (rd_assign' rfl) rfl rfl (wt_none' rfl) ?_
    refine px_nil' ?_
    show TX E K2 _
    refine tx_k' hK2 ?_
    refine cx_retc' ?_
    replace hp := Option.some.inj hp
    subst hp
    refine tx_pick' (L' := [(6, (Vl (.bool x1)))]) (H' := []) [] (sub_cons rfl sub_nil) (by decide) pick_nil ?_
    exact tx_ret1' Try.results70 rfl () (rv_tmp' rfl) (List.Sublist.refl _)
  · intro K3 hK3
    rcases br_cases hp with ⟨h1, hp⟩ | ⟨h1, hp⟩
    · refine px_rd' rfl (rd_move' rfl) rfl rfl (wt_is' (wt_guard' rfl rfl rfl) (beq_tt h1)) ?_
      refine px_rd' rfl (rd_field' (off := 3) rfl Try.underlying42 rfl info40 rfl) rfl rfl (wt_is' (wt_guard' rfl rfl rfl) (beq_tt h1)) ?_
      refine px_rd' rfl (rd_load_agg' (i := 0) (o := 3) (nn := 3) rfl ⟨rfl, rfl, rfl, rfl⟩ rfl agg40 (l' := [(Vl (.bool a1_3)), (Sl (Ki .u32) a1_4), (Vl (.int .i64 a1_5))]) rfl) rfl rfl (wt_is' (wt_guard' rfl rfl rfl) (beq_tt h1)) ?_
      refine px_rd' rfl (rd_field0' rfl Try.underlying42 rfl info40 rfl) rfl rfl (wt_is' (wt_guard' rfl rfl rfl) (beq_tt h1)) ?_
      refine px_rd' rfl (rd_load_agg' (i := 0) (o := 0) (nn := 3) rfl ⟨rfl, rfl, rfl, rfl⟩ rfl agg40 (l' := [(Vl (.bool a1_0)), (Sl (Ki .u32) a1_1), (Vl (.int .i64 a1_2))]) rfl) rfl rfl (wt_is' (wt_guard' rfl rfl rfl) (beq_tt h1)) ?_
      refine px_rd' rfl (rd_field' (off := 3) rfl Try.underlying42 rfl info40 rfl) rfl rfl (wt_is' (wt_guard' rfl rfl rfl) (beq_tt h1)) ?_
      refine px_rd' rfl (rd_load_agg' (i := 0) (o := 3) (nn := 3) rfl ⟨rfl, rfl, rfl, rfl⟩ rfl agg40 (l' := [(Vl (.bool a1_3)), (Sl (Ki .u32) a1_4), (Vl (.int .i64 a1_5))]) rfl) rfl rfl (wt_is' (wt_guard' rfl rfl rfl) (beq_tt h1)) ?_
      refine px_rd' rfl (rd_move' rfl) rfl rfl (wt_is' (wt_guard' rfl rfl rfl) (beq_tt h1)) ?_
      obtain ⟨r11, hr11, hp⟩ := bind_some hp
      refine px_ox' rfl (ox_calln' (ent_fn' Try.func46 isn46 rfl rfl) (spec_DyadicOf_sim _ hr11 : Go.Sx.Fn Try.prog 46 [(Vl (.float .f64 a0))] [] (fun x : Unit => (Ag [(Vl (.bool r11.1)), (Sl (Ki .u32) r11.2.1), (Vl (.int .i64 r11.2.2))])) (fun x => [])) (Hn := fun x : Unit => [⟨.pointer (some q4), [(Vl (.bool a1_0)), (Sl (Ki .u32) a1_1), (Vl (.int .i64 a1_2)), (Vl (.bool a1_3)), (Sl (Ki .u32) a1_4), (Vl (.int .i64 a1_5))], 42, none⟩]) (fun _ => rfl) rfl rfl) rfl bs_nil (wt_is' (wt_guard' rfl rfl rfl) (beq_tt h1)) fun ⟨⟩ => ?_
      obtain ⟨r14, hr14, hp⟩ := bind_some hp
      refine px_ox' rfl (ox_calln' (ent_fn' Try.func47 isn47 rfl rfl) (spec_Dyadic_Mul_sim _ _ _ _ _ _ hr14 : Go.Sx.Fn Try.prog 47 [(Ag [(Vl (.bool r11.1)), (Sl (Ki .u32) r11.2.1), (Vl (.int .i64 r11.2.2))]), (Ag [(Vl (.bool a1_3)), (Sl (Ki .u32) a1_4), (Vl (.int .i64 a1_5))])] [] (fun x : Unit => (Ag [(Vl (.bool r14.1)), (Sl (Ki .u32) r14.2.1), (Vl (.int .i64 r14.2.2))])) (fun x => [])) (Hn := fun x : Unit => [⟨.pointer (some q4), [(Vl (.bool a1_0)), (Sl (Ki .u32) a1_1), (Vl (.int .i64 a1_2)), (Vl (.bool a1_3)), (Sl (Ki .u32) a1_4), (Vl (.int .i64 a1_5))], 42, none⟩]) (fun _ => rfl) rfl rfl) rfl bs_nil (wt_is' (wt_guard' rfl rfl rfl) (beq_tt h1)) fun ⟨⟩ => ?_
      obtain ⟨r17, hr17, hp⟩ := bind_some hp
      refine px_ox' rfl (ox_calln' (ent_fn' Try.func48 isn48 rfl rfl) (spec_Dyadic_Sub_sim _ _ _ _ _ _ hr17 : Go.Sx.Fn Try.prog 48 [(Ag [(Vl (.bool r14.1)), (Sl (Ki .u32) r14.2.1), (Vl (.int .i64 r14.2.2))]), (Ag [(Vl (.bool a1_0)), (Sl (Ki .u32) a1_1), (Vl (.int .i64 a1_2))])] [] (fun x : Unit => (Ag [(Vl (.bool r17.1)), (Sl (Ki .u32) r17.2.1), (Vl (.int .i64 r17.2.2))])) (fun x => [])) (Hn := fun x : Unit => [⟨.pointer (some q4), [(Vl (.bool a1_0)), (Sl (Ki .u32) a1_1), (Vl (.int .i64 a1_2)), (Vl (.bool a1_3)), (Sl (Ki .u32) a1_4), (Vl (.int .i64 a1_5))], 42, none⟩]) (fun _ => rfl) rfl rfl) rfl bs_nil (wt_is' (wt_guard' rfl rfl rfl) (beq_tt h1)) fun ⟨⟩ => ?_
      obtain ⟨r18, hr18, hp⟩ := bind_some hp
      refine px_ox' rfl (ox_calln' (ent_fn' Try.func122 isn122 rfl rfl) (spec_Dyadic_Abs_sim _ _ _ hr18 : Go.Sx.Fn Try.prog 122 [(Ag [(Vl (.bool r17.1)), (Sl (Ki .u32) r17.2.1), (Vl (.int .i64 r17.2.2))])] [] (fun x : Unit => (Ag [(Vl (.bool r18.1)), (Sl (Ki .u32) r18.2.1), (Vl (.int .i64 r18.2.2))])) (fun x => [])) (Hn := fun x : Unit => [⟨.pointer (some q4), [(Vl (.bool a1_0)), (Sl (Ki .u32) a1_1), (Vl (.int .i64 a1_2)), (Vl (.bool a1_3)), (Sl (Ki .u32) a1_4), (Vl (.int .i64 a1_5))], 42, none⟩]) (fun _ => rfl) rfl rfl) rfl bs_nil (wt_is' (wt_guard' rfl rfl rfl) (beq_tt h1)) fun ⟨⟩ => ?_
      obtain ⟨r22, hr22, hp⟩ := bind_some hp
      refine px_ox' rfl (ox_calln' (ent_fn' Try.func123 isn123 rfl rfl) (spec_Dyadic_Shift_sim _ _ _ _ hr22 : Go.Sx.Fn Try.prog 123 [(Ag [(Vl (.bool a1_3)), (Sl (Ki .u32) a1_4), (Vl (.int .i64 a1_5))]), (Vl (.int .i64 a2))] [] (fun x : Unit => (Ag [(Vl (.bool r22.1)), (Sl (Ki .u32) r22.2.1), (Vl (.int .i64 r22.2.2))])) (fun x => [])) (Hn := fun x : Unit => [⟨.pointer (some q4), [(Vl (.bool a1_0)), (Sl (Ki .u32) a1_1), (Vl (.int .i64 a1_2)), (Vl (.bool a1_3)), (Sl (Ki .u32) a1_4), (Vl (.int .i64 a1_5))], 42, none⟩]) (fun _ => rfl) rfl rfl) rfl bs_nil (wt_is' (wt_guard' rfl rfl rfl) (beq_tt h1)) fun ⟨⟩ => ?_
      obtain ⟨r23, hr23, hp⟩ := bind_some hp
      refine px_ox' rfl (ox_calln' (ent_fn' Try.func89 isn89 rfl rfl) (spec_Dyadic_Cmp_sim _ _ _ _ _ _ hr23 : Go.Sx.Fn Try.prog 89 [(Ag [(Vl (.bool r18.1)), (Sl (Ki .u32) r18.2.1), (Vl (.int .i64 r18.2.2))]), (Ag [(Vl (.bool r22.1)), (Sl (Ki .u32) r22.2.1), (Vl (.int .i64 r22.2.2))])] [] (fun x : Unit => (Vl (.int .i64 r23))) (fun x => [])) (Hn := fun x : Unit => [⟨.pointer (some q4), [(Vl (.bool a1_0)), (Sl (Ki .u32) a1_1), (Vl (.int .i64 a1_2)), (Vl (.bool a1_3)), (Sl (Ki .u32) a1_4), (Vl (.int .i64 a1_5))], 42, none⟩]) (fun _ => rfl) rfl rfl) rfl bs_nil (wt_is' (wt_guard' rfl rfl rfl) (beq_tt h1)) fun ⟨⟩ => ?_
      refine px_rd' rfl (rd_bin' rfl rfl eg_int ru_lss) rfl rfl (wt_is' (wt_guard' rfl rfl rfl) (beq_tt h1)) ?_
      refine px_rd' rfl (rd_pick_true' rfl h1 rfl) rfl rfl (wt_none' rfl) ?_
      refine px_nil' ?_
      show TX E K3 _
      exact tx_pick' [] (sub_cons rfl sub_nil) (by decide) pick_nil (hK3 (decide (r23 < 0)) hp)
    · refine px_skip' rfl rfl rfl (wt_is' (wt_guard' rfl rfl rfl) (beq_ft h1)) ?_
      refine px_skip' rfl rfl rfl (wt_is' (wt_guard' rfl rfl rfl) (beq_ft h1)) ?_
      refine px_skip' rfl rfl rfl (wt_is' (wt_guard' rfl rfl rfl) (beq_ft h1)) ?_
      refine px_skip' rfl rfl rfl (wt_is' (wt_guard' rfl rfl rfl) (beq_ft h1)) ?_
      refine px_skip' rfl rfl rfl (wt_is' (wt_guard' rfl rfl rfl) (beq_ft h1)) ?_
      refine px_skip' rfl rfl rfl (wt_is' (wt_guard' rfl rfl rfl) (beq_ft h1)) ?_
      refine px_skip' rfl rfl rfl (wt_is' (wt_guard' rfl rfl rfl) (beq_ft h1)) ?_
      refine px_skip' rfl rfl rfl (wt_is' (wt_guard' rfl rfl rfl) (beq_ft h1)) ?_
      refine px_oskip' rfl rfl rfl (wt_is' (wt_guard' rfl rfl rfl) (beq_ft h1)) ?_
      refine px_oskip' rfl rfl rfl (wt_is' (wt_guard' rfl rfl rfl) (beq_ft h1)) ?_
      refine px_oskip' rfl rfl rfl (wt_is' (wt_guard' rfl rfl rfl) (beq_ft h1)) ?_
      refine px_oskip' rfl rfl rfl (wt_is' (wt_guard' rfl rfl rfl) (beq_ft h1)) ?_
      refine px_oskip' rfl rfl rfl (wt_is' (wt_guard' rfl rfl rfl) (beq_ft h1)) ?_
      refine px_oskip' rfl rfl rfl (wt_is' (wt_guard' rfl rfl rfl) (beq_ft h1)) ?_
      refine px_skip' rfl rfl rfl (wt_is' (wt_guard' rfl rfl rfl) (beq_ft h1)) ?_
      refine px_rd' rfl (rd_pick_false' rfl h1 rfl) rfl rfl (wt_none' rfl) ?_
      refine px_nil' ?_
      show TX E K3 _
      exact tx_pick' [] (sub_cons rfl sub_nil) (by decide) pick_nil (hK3 false hp)

def laws_centred_l1s (r36 : List Nat) (k : Nat) (rec1 : Int → Option (Unit ⊕ Unit)) (x4 : Int) : Option (Unit ⊕ Unit) :=
  br (decide (x4 < (r36.length : Int)))
    ((idx r36 x4) >>= fun r40 =>
    br (fne r40 0)
      (some (.inl ()))
      (rec1 (iadd .i64 x4 1)))
    (some (.inr ()))
def laws_centred_l1 (r36 : List Nat) : Nat → Int → Option (Unit ⊕ Unit)
  | 0, _ => none
  | k + 1, v => laws_centred_l1s r36 k (laws_centred_l1 r36 k) v
def laws_centred_j3 (k : Nat) (a0 : List Nat) (x3 : Bool) : Option (Bool) :=
  br x3
    (some false)
    ((cut a0 2 (a0.length : Int)) >>= fun r36 =>
    (laws_centred_l1 r36 k 0) >>= fun y1 => match y1 with
      | (.inl v5) =>
        (some false)
      | (.inr v6) =>
        (some true))
def laws_centred_j2 (k : Nat) (a0 : List Nat) (a2_0 : Bool) (a2_1 : List Int) (a2_2 : Int) (a2_3 : Bool) (a2_4 : List Int) (a2_5 : Int) (x2 : Bool) : Option (Bool) :=
  br x2
    (laws_centred_j3 k a0 true)
    ((idx a0 1) >>= fun r29 =>
    (laws_nearRatio k r29 a2_0 a2_1 a2_2 a2_3 a2_4 a2_5 (-20)) >>= fun r32 =>
    laws_centred_j3 k a0 (!r32))
def laws_centred_j1 (k : Nat) (a0 : List Nat) (a2_0 : Bool) (a2_1 : List Int) (a2_2 : Int) (a2_3 : Bool) (a2_4 : List Int) (a2_5 : Int) (a1_0 : Bool) (a1_1 : List Int) (a1_2 : Int) (a1_3 : Bool) (a1_4 : List Int) (a1_5 : Int) (x1 : Bool) : Option (Bool) :=
  br x1
    (laws_centred_j2 k a0 a2_0 a2_1 a2_2 a2_3 a2_4 a2_5 true)
    ((idx a0 0) >>= fun r21 =>
    (laws_nearRatio k r21 a1_0 a1_1 a1_2 a1_3 a1_4 a1_5 (-20)) >>= fun r24 =>
    laws_centred_j2 k a0 a2_0 a2_1 a2_2 a2_3 a2_4 a2_5 (!r24))
def laws_centred (k : Nat) (a0 : List Nat) (a1_0 : Bool) (a1_1 : List Int) (a1_2 : Int) (a1_3 : Bool) (a1_4 : List Int) (a1_5 : Int) (a2_0 : Bool) (a2_1 : List Int) (a2_2 : Int) (a2_3 : Bool) (a2_4 : List Int) (a2_5 : Int) (a3 : Int) : Option (Bool) :=
  br (!decide ((a0.length : Int) = a3))
    (laws_centred_j1 k a0 a2_0 a2_1 a2_2 a2_3 a2_4 a2_5 a1_0 a1_1 a1_2 a1_3 a1_4 a1_5 true)
    (laws_centred_j1 k a0 a2_0 a2_1 a2_2 a2_3 a2_4 a2_5 a1_0 a1_1 a1_2 a1_3 a1_4 a1_5 (decide (a3 < 2)))

theorem laws_centred_sim {k : Nat}  (a0 : List Nat) (a1_0 : Bool) (a1_1 : List Int) (a1_2 : Int) (a1_3 : Bool) (a1_4 : List Int) (a1_5 : Int) (a2_0 : Bool) (a2_1 : List Int) (a2_2 : Int) (a2_3 : Bool) (a2_4 : List Int) (a2_5 : Int) (a3 : Int) {out : Bool} (hp : laws_centred k a0 a1_0 a1_1 a1_2 a1_3 a1_4 a1_5 a2_0 a2_1 a2_2 a2_3 a2_4 a2_5 a3 = some out) : Go.Sx.Fn Try.prog 24 [(Sl Kf a0), (Ag [(Vl (.bool a1_0)), (Sl (Ki .u32) a1_1), (Vl (.int .i64 a1_2)), (Vl (.bool a1_3)), (Sl (Ki .u32) a1_4), (Vl (.int .i64 a1_5))]), (Ag [(Vl (.bool a2_0)), (Sl (Ki .u32) a2_1), (Vl (.int .i64 a2_2)), (Vl (.bool a2_3)), (Sl (Ki .u32) a2_4), (Vl (.int .i64 a2_5))]), (Vl (.int .i64 a3))] [] (fun w : Unit => (Vl (.bool out))) (fun w => []) := by
  unfold laws_centred at hp
  refine fn_of Try.func24 rfl Try.ntmps24 rfl fun E hM => ?_
  refine cx_seq' fun K1 hK1 => ?_
  refine cx_region' ?_
  refine sx_ox' (ox_box' rfl (lv_ag _) rfl rfl) (wt_none' rfl) fun q5 => ?_
  refine sx_ox' (ox_box' rfl (lv_ag _) rfl rfl) (wt_none' rfl) fun q6 => ?_
  refine sx_rd' (rd_assign' rfl) rfl rfl (wt_none' rfl) ?_
  refine sx_nil' ?_
  show TX E K1 _
  refine tx_k' hK1 ?_
  refine cx_seq' fun K2 hK2 => ?_
  refine cx_seq' fun K3 hK3 => ?_
  refine cx_plan' [] [] [(0, 1), (1, 1), (2, 1), (3, 1), (4, 1), (5, 1), (6, 1), (7, 1), (8, 1), (9, 1), (10, 1), (11, 1), (12, 1), (13, 0), (14, 1), (15, 1), (16, 1), (17, 1), (18, 1), (19, 1), (20, 1), (21, 0), (22, 1), (23, 1)] mixed (by kernel_rfl) ?_
  refine px_rd' rfl (rd_move' rfl) rfl rfl (wt_none' rfl) ?_
  refine px_rd' rfl (rd_len' rfl Try.underlying30) rfl rfl (wt_none' rfl) ?_
  refine px_rd' rfl (rd_move' rfl) rfl rfl (wt_none' rfl) ?_
  refine px_rd' rfl (rd_bin' rfl rfl eg_int ru_neq) rfl rfl (wt_none' rfl) ?_
  refine px_rd' rfl (rd_move' rfl) rfl rfl (wt_none' rfl) ?_
  refine px_cutn' 3 (fun (v1 : Bool) => (⟨45, [], [(0, (Sl Kf a0)), (5, (Vl (.pointer (some q5)))), (6, (Vl (.pointer (some q6)))), (18, (Vl (.bool v1)))], [⟨.pointer (some q5), [(Vl (.bool a1_0)), (Sl (Ki .u32) a1_1), (Vl (.int .i64 a1_2)), (Vl (.bool a1_3)), (Sl (Ki .u32) a1_4), (Vl (.int .i64 a1_5))], 42, none⟩, ⟨.pointer (some q6), [(Vl (.bool a2_0)), (Sl (Ki .u32) a2_1), (Vl (.int .i64 a2_2)), (Vl (.bool a2_3)), (Sl (Ki .u32) a2_4), (Vl (.int .i64 a2_5))], 42, none⟩]⟩ : St)) (fun (v1 : Bool) => laws_centred_j1 k a0 a2_0 a2_1 a2_2 a2_3 a2_4 a2_5 a1_0 a1_1 a1_2 a1_3 a1_4 a1_5 v1 = some out) ?_ ?_
  · rintro x1 hp
    replace hp : laws_centred_j1 k a0 a2_0 a2_1 a2_2 a2_3 a2_4 a2_5 a1_0 a1_1 a1_2 a1_3 a1_4 a1_5 x1 = some out := hp
    unfold laws_centred_j1 at hp
    refine px_rd' rfl (rd_move' rfl) rfl rfl (wt_none' rfl) ?_
    refine px_cutn' 7 (fun (v2 : Bool) => (⟨45, [], [(0, (Sl Kf a0)), (6, (Vl (.pointer (some q6)))), (26, (Vl (.bool v2)))], [⟨.pointer (some q6), [(Vl (.bool a2_0)), (Sl (Ki .u32) a2_1), (Vl (.int .i64 a2_2)), (Vl (.bool a2_3)), (Sl (Ki .u32) a2_4), (Vl (.int .i64 a2_5))], 42, none⟩]⟩ : St)) (fun (v2 : Bool) => laws_centred_j2 k a0 a2_0 a2_1 a2_2 a2_3 a2_4 a2_5 v2 = some out) ?_ ?_
    · rintro x2 hp
      replace hp : laws_centred_j2 k a0 a2_0 a2_1 a2_2 a2_3 a2_4 a2_5 x2 = some out := hp
      unfold laws_centred_j2 at hp
      refine px_rd' rfl (rd_move' rfl) rfl rfl (wt_none' rfl) ?_
      refine px_cutn' 7 (fun (v3 : Bool) => (⟨45, [], [(0, (Sl Kf a0)), (34, (Vl (.bool v3)))], []⟩ : St)) (fun (v3 : Bool) => laws_centred_j3 k a0 v3 = some out) ?_ ?_
      · rintro x3 hp
        replace hp : laws_centred_j3 k a0 x3 = some out := hp
        unfold laws_centred_j3 at hp
        refine px_nil' ?_
        show TX E K3 _
        refine tx_k' hK3 ?_
        refine cx_cond' rfl (fun h4 => ?_) (fun h4 => ?_)
        · replace hp := (br_t h4).symm.trans hp
          refine cx_seq' fun K7 hK7 => ?_
          refine cx_region' ?_
          refine sx_rd' (rd_assign' rfl) rfl rfl (wt_none' rfl) ?_
          refine sx_nil' ?_
          show TX E K7 _
          refine tx_k' hK7 ?_
          refine cx_retc' ?_
          replace hp := Option.some.inj hp
          subst hp
          refine tx_pick' (L' := [(8, (Vl (.bool false)))]) (H' := []) [] (sub_cons rfl sub_nil) (by decide) pick_nil ?_
          exact tx_ret1' Try.results24 rfl () (rv_tmp' rfl) (List.Sublist.refl _)
        · replace hp := (br_f h4).symm.trans hp
          refine cx_skip' ?_
          show TX E K2 _
          refine tx_k' hK2 ?_
          refine cx_seq' fun K8 hK8 => ?_
          refine cx_seq' fun K9 hK9 => ?_
          refine cx_region' ?_
          refine sx_rd' (rd_move' rfl) rfl rfl (wt_none' rfl) ?_
          obtain ⟨r36, hr36, hp⟩ := bind_some hp
          refine sx_rd' (rd_cut_l' rfl rfl hr36 Try.underlying30 info25) rfl rfl (wt_none' rfl) ?_
          refine sx_rd' (rd_len' rfl Try.underlying30) rfl rfl (wt_none' rfl) ?_
          refine sx_rd' (rd_move' rfl) rfl rfl (wt_none' rfl) ?_
          refine sx_nil' ?_
          show TX E K9 _
          refine tx_k' hK9 ?_
          refine cx_block' ?_
          obtain ⟨y1, hy1, hp⟩ := bind_some hp
          refine cx_loopg' (F := laws_centred_l1 r36) (G := fun k R v => laws_centred_l1s r36 k R v) (x := 0) (gh := ()) (fun (v4 : Int) (w4 : Unit) => (⟨45, [], [(36, (Sl Kf r36)), (37, (Vl (.int .i64 (r36.length : Int)))), (38, (Vl (.int .i64 v4)))], []⟩ : St)) (fun (y : Unit ⊕ Unit) => match y with | (.inl v5) => Zg E Exit.ret (fun (w5 : Unit) => (⟨45, [], [(8, (Vl (.bool false)))], []⟩ : St)) | (.inr v6) => Zg E (Exit.exit 0) (fun (w6 : Unit) => (⟨45, [], [], []⟩ : St))) (fun _ => rfl) (fun _ _ => rfl) ?_ hy1 (tx_to' rfl [] (sub_cons rfl (sub_cons rfl (sub_cons rfl sub_nil))) (by decide) pick_nil) ?_
          · clear hp hy1
            clear y1
            intro k rec1 KY1 ih1
            rintro x4 ⟨⟩ y1 hp
            replace hp : laws_centred_l1s r36 k rec1 x4 = some y1 := hp
            unfold laws_centred_l1s at hp
            refine cx_seq' fun K16 hK16 => ?_
            refine cx_region' ?_
            refine sx_rd' (rd_bin' rfl rfl eg_int ru_lss) rfl rfl (wt_none' rfl) ?_
            refine sx_nil' ?_
            show TX E K16 _
            refine tx_k' hK16 ?_
            refine cx_seq' fun K17 hK17 => ?_
            refine cx_cond' rfl (fun h8 => ?_) (fun h8 => ?_)
            · replace hp := (br_t h8).symm.trans hp
              refine cx_skip' ?_
              show TX E K17 _
              refine tx_k' hK17 ?_
              refine cx_seq' fun K18 hK18 => ?_
              refine cx_block' ?_
              refine cx_seq' fun K19 hK19 => ?_
              refine cx_region' ?_
              obtain ⟨r40, hr40, hp⟩ := bind_some hp
              refine sx_rd' (rd_at' (K := Kf) rfl rfl hr40 Try.underlying30 info25) rfl rfl (wt_none' rfl) ?_
              refine sx_rd' (rd_load_pt' rfl rfl flat25) rfl rfl (wt_none' rfl) ?_
              refine sx_rd' (rd_assign' rfl) rfl rfl (wt_none' rfl) ?_
              refine sx_nil' ?_
              show TX E K19 _
              refine tx_k' hK19 ?_
              refine cx_seq' fun K20 hK20 => ?_
              refine cx_region' ?_
              refine sx_rd' (rd_move' rfl) rfl rfl (wt_none' rfl) ?_
              refine sx_rd' (rd_bin' rfl rfl eg_flt ru_fne) rfl rfl (wt_none' rfl) ?_
              refine sx_nil' ?_
              show TX E K20 _
              refine tx_k' hK20 ?_
              refine cx_cond' rfl (fun h9 => ?_) (fun h9 => ?_)
              · replace hp := (br_t h9).symm.trans hp
                refine cx_seq' fun K21 hK21 => ?_
                refine cx_region' ?_
                refine sx_rd' (rd_assign' rfl) rfl rfl (wt_none' rfl) ?_
                refine sx_nil' ?_
                show TX E K21 _
                refine tx_k' hK21 ?_
                refine cx_retc' ?_
                replace hp := Option.some.inj hp
                subst hp
                show TX E (Zg E Exit.ret _ Exit.ret) _
                exact tx_zend' () rfl [] (sub_cons rfl sub_nil) (by decide) pick_nil
              · replace hp := (br_f h9).symm.trans hp
                refine cx_skip' ?_
                show TX E K18 _
                refine tx_k' hK18 ?_
                refine cx_region' ?_
                refine sx_rd' (rd_bin' rfl rfl eg_int ru_add) rfl rfl (wt_none' rfl) ?_
                refine sx_rd' (rd_move' rfl) rfl rfl (wt_none' rfl) ?_
                refine sx_nil' ?_
                show TX E (KY1 _) _
                exact tx_pick' [] (sub_cons rfl (sub_cons rfl (sub_cons rfl sub_nil))) (by decide) pick_nil (ih1 (iadd .i64 x4 1) () _ hp)
            · replace hp := (br_f h8).symm.trans hp
              refine cx_exit' ?_
              replace hp := Option.some.inj hp
              subst hp
              show TX E (Zg E (Exit.exit 0) _ (Exit.exit 0)) _
              exact tx_zend' () rfl [] sub_nil (by decide) pick_nil
          · rcases y1 with v5 | v6
            · dsimp only at hp
              refine zg_out fun w5 => ?_
              replace hp := Option.some.inj hp
              subst hp
              refine tx_pick' (L' := [(8, (Vl (.bool false)))]) (H' := []) [] (sub_cons rfl sub_nil) (by decide) pick_nil ?_
              exact tx_ret1' Try.results24 rfl () (rv_tmp' rfl) (List.Sublist.refl _)
            · dsimp only at hp
              refine zg_out fun w6 => ?_
              show TX E K8 _
              refine tx_k' hK8 ?_
              refine cx_seq' fun K22 hK22 => ?_
              refine cx_region' ?_
              refine sx_rd' (rd_assign' rfl) rfl rfl (wt_none' rfl) ?_
              refine sx_nil' ?_
              show TX E K22 _
              refine tx_k' hK22 ?_
              refine cx_retc' ?_
              replace hp := Option.some.inj hp
              subst hp
              refine tx_pick' (L' := [(8, (Vl (.bool true)))]) (H' := []) [] (sub_cons rfl sub_nil) (by decide) pick_nil ?_
              exact tx_ret1' Try.results24 rfl () (rv_tmp' rfl) (List.Sublist.refl _)
      · intro K6 hK6
        rcases br_cases hp with ⟨h3, hp⟩ | ⟨h3, hp⟩
        · refine px_skip' rfl rfl rfl (wt_is' (wt_guard' rfl rfl rfl) (beq_tf h3)) ?_
          refine px_skip' rfl rfl rfl (wt_is' (wt_guard' rfl rfl rfl) (beq_tf h3)) ?_
          refine px_skip' rfl rfl rfl (wt_is' (wt_guard' rfl rfl rfl) (beq_tf h3)) ?_
          refine px_skip' rfl rfl rfl (wt_is' (wt_guard' rfl rfl rfl) (beq_tf h3)) ?_
          refine px_oskip' rfl rfl rfl (wt_is' (wt_guard' rfl rfl rfl) (beq_tf h3)) ?_
          refine px_skip' rfl rfl rfl (wt_is' (wt_guard' rfl rfl rfl) (beq_tf h3)) ?_
          refine px_rd' rfl (rd_pick_true' rfl h3 rfl) rfl rfl (wt_none' rfl) ?_
          refine px_nil' ?_
          show TX E K6 _
          exact tx_pick' [] (sub_cons rfl (sub_cons rfl sub_nil)) (by decide) pick_nil (hK6 true hp)
        · refine px_rd' rfl (rd_move' rfl) rfl rfl (wt_is' (wt_guard' rfl rfl rfl) (beq_ff h3)) ?_
          obtain ⟨r29, hr29, hp⟩ := bind_some hp
          refine px_rd' rfl (rd_at' (K := Kf) rfl rfl hr29 Try.underlying30 info25) rfl rfl (wt_is' (wt_guard' rfl rfl rfl) (beq_ff h3)) ?_
          refine px_rd' rfl (rd_load_pt' rfl rfl flat25) rfl rfl (wt_is' (wt_guard' rfl rfl rfl) (beq_ff h3)) ?_
          refine px_rd' rfl (rd_load_agg' (i := 0) (o := 0) (nn := 6) rfl ⟨rfl, rfl, rfl, rfl⟩ rfl agg42 (l' := [(Vl (.bool a2_0)), (Sl (Ki .u32) a2_1), (Vl (.int .i64 a2_2)), (Vl (.bool a2_3)), (Sl (Ki .u32) a2_4), (Vl (.int .i64 a2_5))]) rfl) rfl rfl (wt_is' (wt_guard' rfl rfl rfl) (beq_ff h3)) ?_
          obtain ⟨r32, hr32, hp⟩ := bind_some hp
          refine px_ox' rfl (ox_calln' (ent_fn' Try.func70 isn70 rfl rfl) (laws_nearRatio_sim _ _ _ _ _ _ _ _ hr32 : Go.Sx.Fn Try.prog 70 [(Vl (.float .f64 r29)), (Ag [(Vl (.bool a2_0)), (Sl (Ki .u32) a2_1), (Vl (.int .i64 a2_2)), (Vl (.bool a2_3)), (Sl (Ki .u32) a2_4), (Vl (.int .i64 a2_5))]), (Vl (.int .i64 (-20)))] [] (fun x : Unit => (Vl (.bool r32))) (fun x => [])) (Hn := fun x : Unit => [⟨.pointer (some q6), [(Vl (.bool a2_0)), (Sl (Ki .u32) a2_1), (Vl (.int .i64 a2_2)), (Vl (.bool a2_3)), (Sl (Ki .u32) a2_4), (Vl (.int .i64 a2_5))], 42, none⟩]) (fun _ => rfl) rfl rfl) rfl bs_nil (wt_is' (wt_guard' rfl rfl rfl) (beq_ff h3)) fun ⟨⟩ => ?_
          refine px_rd' rfl (rd_un' rfl ru_not) rfl rfl (wt_is' (wt_guard' rfl rfl rfl) (beq_ff h3)) ?_
          refine px_rd' rfl (rd_pick_false' rfl h3 rfl) rfl rfl (wt_none' rfl) ?_
          refine px_nil' ?_
          show TX E K6 _
          exact tx_pick' [] (sub_cons rfl (sub_cons rfl sub_nil)) (by decide) pick_nil (hK6 (!r32) hp)
    · intro K5 hK5
      rcases br_cases hp with ⟨h2, hp⟩ | ⟨h2, hp⟩
      · refine px_skip' rfl rfl rfl (wt_is' (wt_guard' rfl rfl rfl) (beq_tf h2)) ?_
        refine px_skip' rfl rfl rfl (wt_is' (wt_guard' rfl rfl rfl) (beq_tf h2)) ?_
        refine px_skip' rfl rfl rfl (wt_is' (wt_guard' rfl rfl rfl) (beq_tf h2)) ?_
        refine px_skip' rfl rfl rfl (wt_is' (wt_guard' rfl rfl rfl) (beq_tf h2)) ?_
        refine px_oskip' rfl rfl rfl (wt_is' (wt_guard' rfl rfl rfl) (beq_tf h2)) ?_
        refine px_skip' rfl rfl rfl (wt_is' (wt_guard' rfl rfl rfl) (beq_tf h2)) ?_
        refine px_rd' rfl (rd_pick_true' rfl h2 rfl) rfl rfl (wt_none' rfl) ?_
        refine px_nil' ?_
        show TX E K5 _
        exact tx_pick' [1] (sub_cons rfl (sub_cons rfl (sub_cons rfl sub_nil))) (by decide) (pick_cons rfl pick_nil) (hK5 true hp)
      · refine px_rd' rfl (rd_move' rfl) rfl rfl (wt_is' (wt_guard' rfl rfl rfl) (beq_ff h2)) ?_
        obtain ⟨r21, hr21, hp⟩ := bind_some hp
        refine px_rd' rfl (rd_at' (K := Kf) rfl rfl hr21 Try.underlying30 info25) rfl rfl (wt_is' (wt_guard' rfl rfl rfl) (beq_ff h2)) ?_
        refine px_rd' rfl (rd_load_pt' rfl rfl flat25) rfl rfl (wt_is' (wt_guard' rfl rfl rfl) (beq_ff h2)) ?_
        refine px_rd' rfl (rd_load_agg' (i := 0) (o := 0) (nn := 6) rfl ⟨rfl, rfl, rfl, rfl⟩ rfl agg42 (l' := [(Vl (.bool a1_0)), (Sl (Ki .u32) a1_1), (Vl (.int .i64 a1_2)), (Vl (.bool a1_3)), (Sl (Ki .u32) a1_4), (Vl (.int .i64 a1_5))]) rfl) rfl rfl (wt_is' (wt_guard' rfl rfl rfl) (beq_ff h2)) ?_
        obtain ⟨r24, hr24, hp⟩ := bind_some hp
        refine px_ox' rfl (ox_calln' (ent_fn' Try.func70 isn70 rfl rfl) (laws_nearRatio_sim _ _ _ _ _ _ _ _ hr24 : Go.Sx.Fn Try.prog 70 [(Vl (.float .f64 r21)), (Ag [(Vl (.bool a1_0)), (Sl (Ki .u32) a1_1), (Vl (.int .i64 a1_2)), (Vl (.bool a1_3)), (Sl (Ki .u32) a1_4), (Vl (.int .i64 a1_5))]), (Vl (.int .i64 (-20)))] [] (fun x : Unit => (Vl (.bool r24))) (fun x => [])) (Hn := fun x : Unit => [⟨.pointer (some q5), [(Vl (.bool a1_0)), (Sl (Ki .u32) a1_1), (Vl (.int .i64 a1_2)), (Vl (.bool a1_3)), (Sl (Ki .u32) a1_4), (Vl (.int .i64 a1_5))], 42, none⟩, ⟨.pointer (some q6), [(Vl (.bool a2_0)), (Sl (Ki .u32) a2_1), (Vl (.int .i64 a2_2)), (Vl (.bool a2_3)), (Sl (Ki .u32) a2_4), (Vl (.int .i64 a2_5))], 42, none⟩]) (fun _ => rfl) rfl rfl) rfl bs_nil (wt_is' (wt_guard' rfl rfl rfl) (beq_ff h2)) fun ⟨⟩ => ?_
        refine px_rd' rfl (rd_un' rfl ru_not) rfl rfl (wt_is' (wt_guard' rfl rfl rfl) (beq_ff h2)) ?_
        refine px_rd' rfl (rd_pick_false' rfl h2 rfl) rfl rfl (wt_none' rfl) ?_
        refine px_nil' ?_
        show TX E K5 _
        exact tx_pick' [1] (sub_cons rfl (sub_cons rfl (sub_cons rfl sub_nil))) (by decide) (pick_cons rfl pick_nil) (hK5 (!r24) hp)
  · intro K4 hK4
    rcases br_cases hp with ⟨h1, hp⟩ | ⟨h1, hp⟩
    · refine px_skip' rfl rfl rfl (wt_is' (wt_guard' rfl rfl rfl) (beq_tf h1)) ?_
      refine px_skip' rfl rfl rfl (wt_is' (wt_guard' rfl rfl rfl) (beq_tf h1)) ?_
      refine px_rd' rfl (rd_pick_true' rfl h1 rfl) rfl rfl (wt_none' rfl) ?_
      refine px_nil' ?_
      show TX E K4 _
      exact tx_pick' [1, 0] (sub_cons rfl (sub_cons rfl (sub_cons rfl (sub_cons rfl sub_nil)))) (by decide) (pick_cons rfl (pick_cons rfl pick_nil)) (hK4 true hp)
    · refine px_rd' rfl (rd_move' rfl) rfl rfl (wt_is' (wt_guard' rfl rfl rfl) (beq_ff h1)) ?_
      refine px_rd' rfl (rd_bin' rfl rfl eg_int ru_lss) rfl rfl (wt_is' (wt_guard' rfl rfl rfl) (beq_ff h1)) ?_
      refine px_rd' rfl (rd_pick_false' rfl h1 rfl) rfl rfl (wt_none' rfl) ?_
      refine px_nil' ?_
      show TX E K4 _
      exact tx_pick' [1, 0] (sub_cons rfl (sub_cons rfl (sub_cons rfl (sub_cons rfl sub_nil)))) (by decide) (pick_cons rfl (pick_cons rfl pick_nil)) (hK4 (decide (a3 < 2)) hp)

def laws_FnPointsCentroidFlat_j2 (k : Nat) (x2 : Bool) : Option (Bool) :=
  some x2
def laws_FnPointsCentroidFlat_j1 (k : Nat) (a0 : Int) (a1 : List Nat) (r24 : Bool × (List Int) × Int × Bool × (List Int) × Int × Bool × (List Int) × Int × Bool) (x1 : Bool) : Option (Bool) :=
  br x1
    (some true)
    ((impl_PointsCentroidFlat k a0 a1) >>= fun r37 =>
    br r37.2
      ((laws_centred k r37.1 r24.1 r24.2.1 r24.2.2.1 r24.2.2.2.1 r24.2.2.2.2.1 r24.2.2.2.2.2.1 r24.2.2.2.2.2.2.1 r24.2.2.2.2.2.2.2.1 r24.2.2.2.2.2.2.2.2.1 r24.2.2.2.1 r24.2.2.2.2.1 r24.2.2.2.2.2.1 2) >>= fun r45 =>
      laws_FnPointsCentroidFlat_j2 k r45)
      (laws_FnPointsCentroidFlat_j2 k false))
def laws_FnPointsCentroidFlat (k : Nat) (a0 : Int) (a1 : List Nat) : Option (Bool) :=
  br (decide (2147483647 < (a1.length : Int)))
    (some true)
    ((laws_flatTo k a0 a1 4697254411347427328 200) >>= fun r18 =>
    (laws_exacts k r18.1) >>= fun r23 =>
    (spec_Mean k r23) >>= fun r24 =>
    br (!r18.2)
      (laws_FnPointsCentroidFlat_j1 k a0 a1 r24 true)
      (laws_FnPointsCentroidFlat_j1 k a0 a1 r24 (!r24.2.2.2.2.2.2.2.2.2)))

theorem laws_FnPointsCentroidFlat_sim {k : Nat}  (a0 : Int) (a1 : List Nat) {out : Bool} (hp : laws_FnPointsCentroidFlat k a0 a1 = some out) : Go.Sx.Fn Try.prog 4 [(Vl (.int .i64 a0)), (Sl Kf a1)] [] (fun w : Unit => (Vl (.bool out))) (fun w => []) := by
  unfold laws_FnPointsCentroidFlat at hp
  refine fn_of Try.func4 rfl Try.ntmps4 rfl fun E hM => ?_
  refine cx_seq' fun K1 hK1 => ?_
  refine cx_region' ?_
  refine sx_rd' (rd_assign' rfl) rfl rfl (wt_none' rfl) ?_
  refine sx_nil' ?_
  show TX E K1 _
  refine tx_k' hK1 ?_
  refine cx_seq' fun K2 hK2 => ?_
  refine cx_seq' fun K3 hK3 => ?_
  refine cx_region' ?_
  refine sx_rd' (rd_move' rfl) rfl rfl (wt_none' rfl) ?_
  refine sx_rd' (rd_len' rfl Try.underlying30) rfl rfl (wt_none' rfl) ?_
  refine sx_rd' (rd_bin' rfl rfl eg_int ru_gtr) rfl rfl (wt_none' rfl) ?_
  refine sx_nil' ?_
  show TX E K3 _
  refine tx_k' hK3 ?_
  refine cx_cond' rfl (fun h1 => ?_) (fun h1 => ?_)
  · replace hp := (br_t h1).symm.trans hp
    refine cx_seq' fun K4 hK4 => ?_
    refine cx_region' ?_
    refine sx_rd' (rd_assign' rfl) rfl rfl (wt_none' rfl) ?_
    refine sx_nil' ?_
    show TX E K4 _
    refine tx_k' hK4 ?_
    refine cx_retc' ?_
    replace hp := Option.some.inj hp
    subst hp
    refine tx_pick' (L' := [(4, (Vl (.bool true)))]) (H' := []) [] (sub_cons rfl sub_nil) (by decide) pick_nil ?_
    exact tx_ret1' Try.results4 rfl () (rv_tmp' rfl) (List.Sublist.refl _)
  · replace hp := (br_f h1).symm.trans hp
    refine cx_skip' ?_
    show TX E K2 _
    refine tx_k' hK2 ?_
    refine cx_seq' fun K5 hK5 => ?_
    refine cx_region' ?_
    refine sx_rd' (rd_move' rfl) rfl rfl (wt_none' rfl) ?_
    refine sx_rd' (rd_move' rfl) rfl rfl (wt_none' rfl) ?_
    obtain ⟨r18, hr18, hp⟩ := bind_some hp
    refine sx_ox' (ox_calln' (ent_fn' Try.func20 isn20 rfl rfl) (laws_flatTo_sim _ _ _ _ hr18 : Go.Sx.Fn Try.prog 20 [(Vl (.int .i64 a0)), (Sl Kf a1), (Vl (.float .f64 4697254411347427328)), (Vl (.int .i64 200))] [] (fun x : Unit => (Tu [(Sl KT27 r18.1), (Vl (.bool r18.2))])) (fun x => [])) (Hn := fun x : Unit => []) (fun _ => rfl) rfl rfl) (wt_none' rfl) fun ⟨⟩ => ?_
    refine sx_rd' (rd_move' rfl) rfl rfl (wt_none' rfl) ?_
    refine sx_rd' (rd_extract' rfl rfl) rfl rfl (wt_none' rfl) ?_
    refine sx_rd' (rd_extract' rfl rfl) rfl rfl (wt_none' rfl) ?_
    refine sx_rd' (rd_assign' rfl) rfl rfl (wt_none' rfl) ?_
    refine sx_rd' (rd_assign' rfl) rfl rfl (wt_none' rfl) ?_
    refine sx_nil' ?_
    show TX E K5 _
    refine tx_k' hK5 ?_
    refine cx_seq' fun K6 hK6 => ?_
    refine cx_region' ?_
    refine sx_rd' (rd_move' rfl) rfl rfl (wt_none' rfl) ?_
    obtain ⟨r23, hr23, hp⟩ := bind_some hp
    refine sx_ox' (ox_calln' (ent_fn' Try.func22 isn22 rfl rfl) (laws_exacts_sim _ hr23 : Go.Sx.Fn Try.prog 22 [(Sl KT27 r18.1)] [] (fun x : Unit => (Sl KT54 r23)) (fun x => [])) (Hn := fun x : Unit => []) (fun _ => rfl) rfl rfl) (wt_none' rfl) fun ⟨⟩ => ?_
    obtain ⟨r24, hr24, hp⟩ := bind_some hp
    refine sx_ox' (ox_calln' (ent_fn' Try.func21 isn21 rfl rfl) (spec_Mean_sim _ hr24 : Go.Sx.Fn Try.prog 21 [(Sl KT54 r23)] [] (fun x : Unit => (Tu [(Ag [(Vl (.bool r24.1)), (Sl (Ki .u32) r24.2.1), (Vl (.int .i64 r24.2.2.1)), (Vl (.bool r24.2.2.2.1)), (Sl (Ki .u32) r24.2.2.2.2.1), (Vl (.int .i64 r24.2.2.2.2.2.1))]), (Ag [(Vl (.bool r24.2.2.2.2.2.2.1)), (Sl (Ki .u32) r24.2.2.2.2.2.2.2.1), (Vl (.int .i64 r24.2.2.2.2.2.2.2.2.1)), (Vl (.bool r24.2.2.2.1)), (Sl (Ki .u32) r24.2.2.2.2.1), (Vl (.int .i64 r24.2.2.2.2.2.1))]), (Vl (.bool r24.2.2.2.2.2.2.2.2.2))])) (fun x => [])) (Hn := fun x : Unit => []) (fun _ => rfl) rfl rfl) (wt_none' rfl) fun ⟨⟩ => ?_
    refine sx_rd' (rd_move' rfl) rfl rfl (wt_none' rfl) ?_
    refine sx_rd' (rd_extract' rfl rfl) rfl rfl (wt_none' rfl) ?_
    refine sx_rd' (rd_extract' rfl rfl) rfl rfl (wt_none' rfl) ?_
    refine sx_rd' (rd_extract' rfl rfl) rfl rfl (wt_none' rfl) ?_
    refine sx_ox' (ox_alloc' info42 rfl rfl rfl rfl (l := [(Vl (.bool false)), (Vl (.slice none 0 0)), (Vl (.int .i64 0)), (Vl (.bool false)), (Vl (.slice none 0 0)), (Vl (.int .i64 0))]) rfl) (wt_none' rfl) fun q7 => ?_
    refine sx_ox' (ox_alloc' info42 rfl rfl rfl rfl (l := [(Vl (.bool false)), (Vl (.slice none 0 0)), (Vl (.int .i64 0)), (Vl (.bool false)), (Vl (.slice none 0 0)), (Vl (.int .i64 0))]) rfl) (wt_none' rfl) fun q8 => ?_
    refine sx_ox' (ox_store' (i := 1) (o := 0) rfl rfl (lv_ag _) ⟨rfl, rfl, rfl, rfl⟩ rfl info42 rfl (H' := [⟨.pointer (some q8), [(Vl (.bool false)), (Vl (.slice none 0 0)), (Vl (.int .i64 0)), (Vl (.bool false)), (Vl (.slice none 0 0)), (Vl (.int .i64 0))], 42, none⟩, ⟨.pointer (some q7), [(Vl (.bool r24.1)), (Sl (Ki .u32) r24.2.1), (Vl (.int .i64 r24.2.2.1)), (Vl (.bool r24.2.2.2.1)), (Sl (Ki .u32) r24.2.2.2.2.1), (Vl (.int .i64 r24.2.2.2.2.2.1))], 42, none⟩]) rfl) (wt_none' rfl) fun _ => ?_
    refine sx_ox' (ox_store' (i := 0) (o := 0) rfl rfl (lv_ag _) ⟨rfl, rfl, rfl, rfl⟩ rfl info42 rfl (H' := [⟨.pointer (some q8), [(Vl (.bool r24.2.2.2.2.2.2.1)), (Sl (Ki .u32) r24.2.2.2.2.2.2.2.1), (Vl (.int .i64 r24.2.2.2.2.2.2.2.2.1)), (Vl (.bool r24.2.2.2.1)), (Sl (Ki .u32) r24.2.2.2.2.1), (Vl (.int .i64 r24.2.2.2.2.2.1))], 42, none⟩, ⟨.pointer (some q7), [(Vl (.bool r24.1)), (Sl (Ki .u32) r24.2.1), (Vl (.int .i64 r24.2.2.1)), (Vl (.bool r24.2.2.2.1)), (Sl (Ki .u32) r24.2.2.2.2.1), (Vl (.int .i64 r24.2.2.2.2.2.1))], 42, none⟩]) rfl) (wt_none' rfl) fun _ => ?_
    refine sx_rd' (rd_assign' rfl) rfl rfl (wt_none' rfl) ?_
    refine sx_nil' ?_
    show TX E K6 _
    refine tx_k' hK6 ?_
    refine cx_seq' fun K7 hK7 => ?_
    refine cx_seq' fun K8 hK8 => ?_
    refine cx_region' ?_
    refine sx_rd' (rd_move' rfl) rfl rfl (wt_none' rfl) ?_
    refine sx_rd' (rd_un' rfl ru_not) rfl rfl (wt_none' rfl) ?_
    refine sx_rd' (rd_move' rfl) rfl rfl (wt_none' rfl) ?_
    refine sx_cutn' 3 (fun (v1 : Bool) => (⟨47, [], [(0, (Vl (.int .i64 a0))), (1, (Sl Kf a1)), (7, (Vl (.pointer (some q7)))), (8, (Vl (.pointer (some q8)))), (33, (Vl (.bool v1)))], [⟨.pointer (some q7), [(Vl (.bool r24.1)), (Sl (Ki .u32) r24.2.1), (Vl (.int .i64 r24.2.2.1)), (Vl (.bool r24.2.2.2.1)), (Sl (Ki .u32) r24.2.2.2.2.1), (Vl (.int .i64 r24.2.2.2.2.2.1))], 42, none⟩, ⟨.pointer (some q8), [(Vl (.bool r24.2.2.2.2.2.2.1)), (Sl (Ki .u32) r24.2.2.2.2.2.2.2.1), (Vl (.int .i64 r24.2.2.2.2.2.2.2.2.1)), (Vl (.bool r24.2.2.2.1)), (Sl (Ki .u32) r24.2.2.2.2.1), (Vl (.int .i64 r24.2.2.2.2.2.1))], 42, none⟩]⟩ : St)) (fun (v1 : Bool) => laws_FnPointsCentroidFlat_j1 k a0 a1 r24 v1 = some out) ?_ ?_
    · rintro x1 hp
      replace hp : laws_FnPointsCentroidFlat_j1 k a0 a1 r24 x1 = some out := hp
      unfold laws_FnPointsCentroidFlat_j1 at hp
      refine sx_nil' ?_
      show TX E K8 _
      refine tx_k' hK8 ?_
      refine cx_cond' rfl (fun h3 => ?_) (fun h3 => ?_)
      · replace hp := (br_t h3).symm.trans hp
        refine cx_seq' fun K10 hK10 => ?_
        refine cx_region' ?_
        refine sx_rd' (rd_assign' rfl) rfl rfl (wt_none' rfl) ?_
        refine sx_nil' ?_
        show TX E K10 _
        refine tx_k' hK10 ?_
        refine cx_retc' ?_
        replace hp := Option.some.inj hp
        subst hp
        refine tx_pick' (L' := [(4, (Vl (.bool true)))]) (H' := []) [] (sub_cons rfl sub_nil) (by decide) pick_nil ?_
        exact tx_ret1' Try.results4 rfl () (rv_tmp' rfl) (List.Sublist.refl _)
      · replace hp := (br_f h3).symm.trans hp
        refine cx_skip' ?_
        show TX E K7 _
        refine tx_k' hK7 ?_
        refine cx_seq' fun K11 hK11 => ?_
        refine cx_region' ?_
        refine sx_rd' (rd_move' rfl) rfl rfl (wt_none' rfl) ?_
        refine sx_rd' (rd_move' rfl) rfl rfl (wt_none' rfl) ?_
        obtain ⟨r37, hr37, hp⟩ := bind_some hp
        refine sx_ox' (ox_calln' (ent_fn' Try.func23 isn23 rfl rfl) (impl_PointsCentroidFlat_sim _ _ hr37 : Go.Sx.Fn Try.prog 23 [(Vl (.int .i64 a0)), (Sl Kf a1)] [] (fun x : Unit => (Tu [(Sl Kf r37.1), (Vl (.bool r37.2))])) (fun x => [])) (Hn := fun x : Unit => [⟨.pointer (some q7), [(Vl (.bool r24.1)), (Sl (Ki .u32) r24.2.1), (Vl (.int .i64 r24.2.2.1)), (Vl (.bool r24.2.2.2.1)), (Sl (Ki .u32) r24.2.2.2.2.1), (Vl (.int .i64 r24.2.2.2.2.2.1))], 42, none⟩, ⟨.pointer (some q8), [(Vl (.bool r24.2.2.2.2.2.2.1)), (Sl (Ki .u32) r24.2.2.2.2.2.2.2.1), (Vl (.int .i64 r24.2.2.2.2.2.2.2.2.1)), (Vl (.bool r24.2.2.2.1)), (Sl (Ki .u32) r24.2.2.2.2.1), (Vl (.int .i64 r24.2.2.2.2.2.1))], 42, none⟩]) (fun _ => rfl) rfl rfl) (wt_none' rfl) fun ⟨⟩ => ?_
        refine sx_rd' (rd_move' rfl) rfl rfl (wt_none' rfl) ?_
        refine sx_rd' (rd_extract' rfl rfl) rfl rfl (wt_none' rfl) ?_
        refine sx_rd' (rd_extract' rfl rfl) rfl rfl (wt_none' rfl) ?_
        refine sx_rd' (rd_assign' rfl) rfl rfl (wt_none' rfl) ?_
        refine sx_rd' (rd_assign' rfl) rfl rfl (wt_none' rfl) ?_
        refine sx_nil' ?_
        show TX E K11 _
        refine tx_k' hK11 ?_
        refine cx_seq' fun K12 hK12 => ?_
        refine cx_region' ?_
        refine sx_rd' (rd_move' rfl) rfl rfl (wt_none' rfl) ?_
        refine sx_rd' (rd_move' rfl) rfl rfl (wt_none' rfl) ?_
        refine sx_cutn' 5 (fun (v2 : Bool) => (⟨47, [], [(46, (Vl (.bool v2)))], []⟩ : St)) (fun (v2 : Bool) => laws_FnPointsCentroidFlat_j2 k v2 = some out) ?_ ?_
        · rintro x2 hp
          replace hp : laws_FnPointsCentroidFlat_j2 k x2 = some out := hp
          unfold laws_FnPointsCentroidFlat_j2 at hp
          refine sx_rd' (rd_assign' rfl) rfl rfl (wt_none' rfl) ?_
          refine sx_nil' ?_
          show TX E K12 _
          refine tx_k' hK12 ?_
          refine cx_retc' ?_
          replace hp := Option.some.inj hp
          subst hp
          refine tx_pick' (L' := [(4, (Vl (.bool x2)))]) (H' := []) [] (sub_cons rfl sub_nil) (by decide) pick_nil ?_
          exact tx_ret1' Try.results4 rfl () (rv_tmp' rfl) (List.Sublist.refl _)
        · intro K13 hK13
          rcases br_cases hp with ⟨h4, hp⟩ | ⟨h4, hp⟩
          · refine sx_rd' (rd_move' rfl) rfl rfl (wt_is' (wt_guard' rfl rfl rfl) (beq_tt h4)) ?_
            refine sx_rd' (rd_load_agg' (i := 0) (o := 0) (nn := 6) rfl ⟨rfl, rfl, rfl, rfl⟩ rfl agg42 (l' := [(Vl (.bool r24.1)), (Sl (Ki .u32) r24.2.1), (Vl (.int .i64 r24.2.2.1)), (Vl (.bool r24.2.2.2.1)), (Sl (Ki .u32) r24.2.2.2.2.1), (Vl (.int .i64 r24.2.2.2.2.2.1))]) rfl) rfl rfl (wt_is' (wt_guard' rfl rfl rfl) (beq_tt h4)) ?_
            refine sx_rd' (rd_load_agg' (i := 1) (o := 0) (nn := 6) rfl ⟨rfl, rfl, rfl, rfl⟩ rfl agg42 (l' := [(Vl (.bool r24.2.2.2.2.2.2.1)), (Sl (Ki .u32) r24.2.2.2.2.2.2.2.1), (Vl (.int .i64 r24.2.2.2.2.2.2.2.2.1)), (Vl (.bool r24.2.2.2.1)), (Sl (Ki .u32) r24.2.2.2.2.1), (Vl (.int .i64 r24.2.2.2.2.2.1))]) rfl) rfl rfl (wt_is' (wt_guard' rfl rfl rfl) (beq_tt h4)) ?_
            obtain ⟨r45, hr45, hp⟩ := bind_some hp
            refine sx_ox' (ox_calln' (ent_fn' Try.func24 isn24 rfl rfl) (laws_centred_sim _ _ _ _ _ _ _ _ _ _ _ _ _ _ hr45 : Go.Sx.Fn Try.prog 24 [(Sl Kf r37.1), (Ag [(Vl (.bool r24.1)), (Sl (Ki .u32) r24.2.1), (Vl (.int .i64 r24.2.2.1)), (Vl (.bool r24.2.2.2.1)), (Sl (Ki .u32) r24.2.2.2.2.1), (Vl (.int .i64 r24.2.2.2.2.2.1))]), (Ag [(Vl (.bool r24.2.2.2.2.2.2.1)), (Sl (Ki .u32) r24.2.2.2.2.2.2.2.1), (Vl (.int .i64 r24.2.2.2.2.2.2.2.2.1)), (Vl (.bool r24.2.2.2.1)), (Sl (Ki .u32) r24.2.2.2.2.1), (Vl (.int .i64 r24.2.2.2.2.2.1))]), (Vl (.int .i64 2))] [] (fun x : Unit => (Vl (.bool r45))) (fun x => [])) (Hn := fun x : Unit => [⟨.pointer (some q7), [(Vl (.bool r24.1)), (Sl (Ki .u32) r24.2.1), (Vl (.int .i64 r24.2.2.1)), (Vl (.bool r24.2.2.2.1)), (Sl (Ki .u32) r24.2.2.2.2.1), (Vl (.int .i64 r24.2.2.2.2.2.1))], 42, none⟩, ⟨.pointer (some q8), [(Vl (.bool r24.2.2.2.2.2.2.1)), (Sl (Ki .u32) r24.2.2.2.2.2.2.2.1), (Vl (.int .i64 r24.2.2.2.2.2.2.2.2.1)), (Vl (.bool r24.2.2.2.1)), (Sl (Ki .u32) r24.2.2.2.2.1), (Vl (.int .i64 r24.2.2.2.2.2.1))], 42, none⟩]) (fun _ => rfl) rfl rfl) (wt_is' (wt_guard' rfl rfl rfl) (beq_tt h4)) fun ⟨⟩ => ?_
            refine sx_rd' (rd_pick_true' rfl h4 rfl) rfl rfl (wt_none' rfl) ?_
            refine sx_nil' ?_
            show TX E K13 _
            exact tx_pick' [] (sub_cons rfl sub_nil) (by decide) pick_nil (hK13 r45 hp)
          · refine sx_skip' rfl rfl (wt_is' (wt_guard' rfl rfl rfl) (beq_ft h4)) ?_
            refine sx_skip' rfl rfl (wt_is' (wt_guard' rfl rfl rfl) (beq_ft h4)) ?_
            refine sx_skip' rfl rfl (wt_is' (wt_guard' rfl rfl rfl) (beq_ft h4)) ?_
            refine sx_skip' rfl rfl (wt_is' (wt_guard' rfl rfl rfl) (beq_ft h4)) ?_
            refine sx_rd' (rd_pick_false' rfl h4 rfl) rfl rfl (wt_none' rfl) ?_
            refine sx_nil' ?_
            show TX E K13 _
            exact tx_pick' [] (sub_cons rfl sub_nil) (by decide) pick_nil (hK13 false hp)
    · intro K9 hK9
      rcases br_cases hp with ⟨h2, hp⟩ | ⟨h2, hp⟩
      · refine sx_skip' rfl rfl (wt_is' (wt_guard' rfl rfl rfl) (beq_tf h2)) ?_
        refine sx_skip' rfl rfl (wt_is' (wt_guard' rfl rfl rfl) (beq_tf h2)) ?_
        refine sx_rd' (rd_pick_true' rfl h2 rfl) rfl rfl (wt_none' rfl) ?_
        refine sx_nil' ?_
        show TX E K9 _
        exact tx_pick' [1, 0] (sub_cons rfl (sub_cons rfl (sub_cons rfl (sub_cons rfl (sub_cons rfl sub_nil))))) (by decide) (pick_cons rfl (pick_cons rfl pick_nil)) (hK9 true hp)
      · refine sx_rd' (rd_move' rfl) rfl rfl (wt_is' (wt_guard' rfl rfl rfl) (beq_ff h2)) ?_
        refine sx_rd' (rd_un' rfl ru_not) rfl rfl (wt_is' (wt_guard' rfl rfl rfl) (beq_ff h2)) ?_
        refine sx_rd' (rd_pick_false' rfl h2 rfl) rfl rfl (wt_none' rfl) ?_
        refine sx_nil' ?_
        show TX E K9 _
        exact tx_pick' [1, 0] (sub_cons rfl (sub_cons rfl (sub_cons rfl (sub_cons rfl (sub_cons rfl sub_nil))))) (by decide) (pick_cons rfl (pick_cons rfl pick_nil)) (hK9 (!r24.2.2.2.2.2.2.2.2.2) hp)

end Go.Proofs.Ytnemkhcjmenfnaa
