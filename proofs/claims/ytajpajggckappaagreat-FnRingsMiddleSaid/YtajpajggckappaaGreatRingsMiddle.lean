/-
  The centroid of rings is near the mean of the segments' middles: the plain statement. Ours.
-/
import Derived.Test.YtajpajggckappaaGreatRmMid
namespace Go.Proofs.YtajpajggckappaaGreat
open Go.Sx
open Ieee (signed)
set_option linter.unusedVariables false
set_option linter.unusedSimpArgs false
set_option maxRecDepth 100000

theorem zeros_loop (m : Nat) (hm : m ≤ 100) : ∀ (n k i : Nat), m - i = n → n < k → i ≤ m → laws_atMiddle_l1 (List.replicate m 0) k (i : Int) = some (.inr ()) := by
  intro n
  induction n with
  | zero =>
    intro k i hn hk hi
    obtain ⟨k, rfl⟩ : ∃ j, k = j + 1 := ⟨k - 1, by omega⟩
    simp only [laws_atMiddle_l1, laws_atMiddle_l1s, List.length_replicate, lt_false (show ¬ i < m by omega), br_false]
  | succ n ih =>
    intro k i hn hk hi
    obtain ⟨k, rfl⟩ : ∃ j, k = j + 1 := ⟨k - 1, by omega⟩
    have hlt : i < m := by omega
    have hz : idx (List.replicate m 0) (i : Int) = some 0 := by
      rw [idx_get (show i < (List.replicate m 0).length by simpa using hlt)]; simp
    simp only [laws_atMiddle_l1, laws_atMiddle_l1s, List.length_replicate, lt_true hlt, br_true, hz, Option.bind_eq_bind, Option.bind_some, show fne 0 0 = false from by rw [D_ne (D_zero 0) (D_zero 0)]; rfl, br_false, iadd_one (show i < 9223372036854775807 by omega)]
    exact ih k (i + 1) (by omega) (by omega) (by omega)
theorem atMiddle_is {k : Nat} (hk : 200 < k) {z w x y : Nat} {p q p' q' v u : Rat} {st : Nat} (h2 : 2 ≤ st) (h8 : st ≤ 8) (hz : Q z p) (hw : Q w q) (hx : Q x p') (hy : Q y q')
    (n1 : Nr p v (1 / 4194304)) (n2 : Nr q u (1 / 4194304)) (n3 : Nr p' v (1 / 4194304)) (n4 : Nr q' u (1 / 4194304)) :
    laws_atMiddle k (z :: w :: List.replicate (st - 2) 0) x y (st : Int) = some true := by
  have hlen : (z :: w :: List.replicate (st - 2) 0).length = st := by simp; omega
  have hcut : cut (z :: w :: List.replicate (st - 2) 0) 2 (st : Int) = some (List.replicate (st - 2) 0) := by
    rw [cut_some (by omega) (by omega) (by rw [hlen]; omega), Int.toNat_natCast, List.take_of_length_le (by rw [hlen]; omega)]; rfl
  have hl := zeros_loop (st - 2) (by omega) (st - 2) k 0 (by omega) (by omega) (by omega)
  have hl' : laws_atMiddle_l1 (List.replicate (st - 2) 0) k 0 = some (.inr ()) := hl
  unfold laws_atMiddle laws_atMiddle_j1 laws_atMiddle_j2 laws_atMiddle_j3
  rw [hlen, decide_eq_true (show (st : Int) = (st : Int) from rfl), decide_eq_false (show ¬ (st : Int) < 2 by omega)]
  simp only [Bool.not_true, br_false, show ∀ (u v : Nat) (l : List Nat), idx (u :: v :: l) 0 = some u from fun _ _ _ => rfl, show ∀ (u v : Nat) (l : List Nat), idx (u :: v :: l) 1 = some v from fun _ _ _ => rfl, Option.bind_eq_bind, Option.bind_some,
    nearTo_is hz hx n1 n3, nearTo_is hw hy n2 n4, hcut, hl']
theorem fact_FnRingsMiddle (a0 : Int) (a1 : List T38) {p : Prop} (g0 : p) (g1 : a1.length ≤ maxLen ∧ ∀ x ∈ a1, T38.Ok x) : ∃ k, laws_FnRingsMiddle k a0 a1 = some true := by
  refine ⟨10000, ?_⟩
  have hw : ∀ g ∈ a1, ∀ x ∈ g.f3, x < 18446744073709551616 := by
    intro g hg x hx
    have h := g1.2 g hg
    cases h with
    | mk h0 h1 h2 h3 h4 h5 h6 hk => exact h3.2 x hx
  unfold laws_FnRingsMiddle laws_FnRingsMiddle_j1 laws_FnRingsMiddle_j2
  by_cases hbig : 2147483647 < a1.length
  · rw [decide_eq_true (show (2147483647 : Int) < (a1.length : Int) by omega), br_true]
  rw [decide_eq_false (show ¬ (2147483647 : Int) < (a1.length : Int) by omega), br_false]
  obtain ⟨lines, b, q1, q2⟩ := kindred_is (k := 10000) (by omega) a0 a1 hw
  rw [q1, sbind]
  rcases q2 with ⟨rfl, rfl⟩ | ⟨st, T, P, hR, hl, hd⟩
  · have hm : laws_middles 10000 [] = some (gdiv 0 0, gdiv 0 0, fgt 0 0) := rfl
    simp only [hm, sbind, Bool.not_false, br_true]
  · obtain ⟨c, d, t, r1, r2⟩ := mids_loop hl hR.few hR.t1 hR.t2 hd a1.length 10000 0 0 0 0 (0, 0, 0) (by omega) (by have := hR.few; omega) (by omega) inv_zero
    have r1' : laws_middles_l3 lines 10000 (0, 0, 0, 0) = some (c, d, t) := r1
    have hm : laws_middles 10000 lines = some (gdiv c t, gdiv d t, fgt t 0) := by
      unfold laws_middles
      simp only [r1', sbind]
    rw [hm, sbind]
    cases b with
    | false => simp only [Bool.not_false, br_true]
    | true =>
      rw [Bool.not_true, br_false]
      obtain ⟨a, b, l, h1, h2, h3, h4, h5, h6, h7, h8, h9, h10⟩ := r2
      by_cases hL : (foldR T P 0 a1.length (0, 0, 0)).2.2 = 0
      · have hl0 : l = 0 := by
          rw [hL] at h6
          obtain ⟨e1, e2⟩ := h6
          grind
        have hg : fgt t 0 = false := by rw [fgt_q h3 q_zero, hl0]; rfl
        rw [hg]; rfl
      · obtain ⟨z, w, p, q, i1, i2, i3, i4, i5⟩ := rings_is hR (k := 10000) (by omega) hL
        have hL2 : 1 / 2 ≤ (foldR T P 0 a1.length (0, 0, 0)).2.2 := by grind
        have hL3 : (foldR T P 0 a1.length (0, 0, 0)).2.2 ≤ 1000000 := by
          have : ((2000 : Nat) : Rat) = 2000 := rfl
          rw [this] at h10; grind
        have e2000 : ((2000 : Nat) : Rat) * kk = 2000 * kk := rfl
        rw [e2000] at h4 h5 h6
        obtain ⟨l0, p', p1, p2⟩ := quot_near h1 h3 h4 h6 h7 hL2 hL3 (by grind) (by grind)
        obtain ⟨_, q', q1, q2⟩ := quot_near h2 h3 h5 h6 h8 hL2 hL3 (by grind) (by grind)
        have hg : fgt t 0 = true := by rw [fgt_q h3 q_zero, decide_eq_true l0]
        rw [hg]
        simp only [Bool.not_true, br_false, i1, sbind, br_true, stride_is, hR.str, num_q p1, num_q q1, atMiddle_is (k := 10000) (by omega) hR.st2 hR.st8 i2 i3 p1 q1 i4 i5 p2 q2]
end Go.Proofs.YtajpajggckappaaGreat
