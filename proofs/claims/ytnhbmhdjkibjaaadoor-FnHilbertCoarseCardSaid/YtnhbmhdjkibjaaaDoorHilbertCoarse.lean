/-
  A Hilbert curve goes through the coarse cells in the order of the coarser curve: the plain statement. Ours.
-/
import Derived.Test.YtnhbmhdjkibjaaaDoorFun
import Derived.Test.YtnhbmhdjkibjaaaDoorSxW
namespace Go.Proofs.YtnhbmhdjkibjaaaDoor
open Go.Sx
set_option linter.unusedVariables false
set_option linter.unusedSimpArgs false
set_option maxRecDepth 100000

/-! #### numbers -/
theorem pow_62 {n : Nat} (h : n ≤ 62) : 2 ^ n ≤ 4611686018427387904 := Nat.le_trans (Nat.pow_le_pow_right (by decide) h) (by decide)
theorem shl_is {b N : Nat} (hb : b ≤ 1) (hN : N ≤ 62) : ishl .i64 (b : Int) (N : Int) = some ((b * 2 ^ N : Nat) : Int) := by
  have h1 := pow_62 hN
  have h2 : b * 2 ^ N ≤ 2 ^ N := by
    have := Nat.mul_le_mul_right (2 ^ N) hb
    omega
  unfold ishl
  rw [if_neg (by omega)]
  have e : min ((N : Int)).toNat IntKind.i64.bits = N := by
    show min ((N : Int)).toNat 64 = N
    omega
  rw [e]
  have e2 : (b : Int) * 2 ^ N = ((b * 2 ^ N : Nat) : Int) := by push_cast; rfl
  rw [e2, wrap_i64 (by omega) (by omega)]
theorem shr_is {X N : Nat} (hN : N ≤ 62) : ishr .i64 (X : Int) (N : Int) = some ((X / 2 ^ N : Nat) : Int) := by
  unfold ishr
  rw [if_neg (by omega)]
  have e : min ((N : Int)).toNat IntKind.i64.bits = N := by
    show min ((N : Int)).toNat 64 = N
    omega
  rw [e, Int.fdiv_eq_ediv_of_nonneg _ (Int.le_of_lt (Int.pow_pos (by omega)))]
  push_cast; rfl
theorem nxor {X N : Nat} (h : X < 2 ^ N) : X ^^^ (2 ^ N - 1) = 2 ^ N - 1 - X := by
  apply Nat.eq_of_testBit_eq
  intro i
  have e : 2 ^ N - 1 - X = 2 ^ N - (X + 1) := by omega
  rw [e, Nat.testBit_xor, Nat.testBit_two_pow_sub_one, Nat.testBit_two_pow_sub_succ h]
  by_cases hi : i < N
  · simp [hi]
  · have : X.testBit i = false := Nat.testBit_lt_two_pow (Nat.lt_of_lt_of_le h (Nat.pow_le_pow_right (by decide) (by omega)))
    simp [hi, this]
theorem xor_is {X N : Nat} (hX : X < 2 ^ N) (hN : N ≤ 62) : ixor .i64 (X : Int) (isub .i64 ((2 ^ N : Nat) : Int) 1) = ((2 ^ N - 1 - X : Nat) : Int) := by
  have h1 := pow_62 hN
  have hp := Nat.two_pow_pos N
  rw [isub_i64 (by omega) (by omega)]
  have e : ((2 ^ N : Nat) : Int) - 1 = ((2 ^ N - 1 : Nat) : Int) := by omega
  rw [e]
  unfold ixor
  show IntKind.wrap .i64 ((BitVec.ofInt 64 (X : Int) ^^^ BitVec.ofInt 64 ((2 ^ N - 1 : Nat) : Int)).toNat : Int) = _
  rw [BitVec.toNat_xor, bv_nat64 X (by omega), bv_nat64 (2 ^ N - 1) (by omega), nxor hX]
  exact wrap_i64 (by omega) (by omega)
theorem flip_div {X n k : Nat} (h : X < 2 ^ (n + k)) : (2 ^ (n + k) - 1 - X) / 2 ^ k = 2 ^ n - 1 - X / 2 ^ k := by
  rw [Nat.pow_add] at h ⊢
  obtain ⟨A, hA⟩ : ∃ A, 2 ^ k = A := ⟨_, rfl⟩
  obtain ⟨B, hB⟩ : ∃ B, 2 ^ n = B := ⟨_, rfl⟩
  have hA0 : 0 < A := by rw [← hA]; exact Nat.two_pow_pos k
  rw [hA, hB] at h ⊢
  have h1 := Nat.div_add_mod X A
  have h2 := Nat.mod_lt X hA0
  have h3 : X / A < B := Nat.div_lt_of_lt_mul (by rw [Nat.mul_comm]; exact h)
  obtain ⟨q, hq⟩ : ∃ q, X / A = q := ⟨_, rfl⟩
  obtain ⟨r, hr⟩ : ∃ r, X % A = r := ⟨_, rfl⟩
  rw [hq] at h1 h3 ⊢
  rw [hr] at h1 h2
  obtain ⟨c, rfl⟩ : ∃ c, B = q + 1 + c := ⟨B - q - 1, by omega⟩
  have e : (q + 1 + c) * A - 1 - X = (A - 1 - r) + c * A := by
    have : (q + 1 + c) * A = A * q + A + c * A := by grind
    omega
  rw [e, Nat.add_mul_div_right _ _ hA0, Nat.div_eq_of_lt (by omega)]
  omega
theorem add_div {X n k b : Nat} (h : X < 2 ^ (n + k)) : (X + b * 2 ^ (n + k)) / 2 ^ k = X / 2 ^ k + b * 2 ^ n := by
  have e : b * 2 ^ (n + k) = (b * 2 ^ n) * 2 ^ k := by rw [Nat.pow_add, Nat.mul_assoc]
  rw [e, Nat.add_mul_div_right _ _ (Nat.two_pow_pos k)]

/-! #### two numbers of which one is the coarse part of the other; lists of such -/
def Rl (k n : Nat) (x y : Int) : Prop := ∃ X : Nat, X < 2 ^ (n + k) ∧ x = (X : Int) ∧ y = ((X / 2 ^ k : Nat) : Int)
theorem Rl.coarse {k n X : Nat} (h : X < 2 ^ (n + k)) : X / 2 ^ k < 2 ^ n := by
  rw [Nat.pow_add, Nat.mul_comm] at h
  exact Nat.div_lt_of_lt_mul h
theorem Rl.flip {k n : Nat} {x y : Int} (hN : n + k ≤ 62) (h : Rl k n x y) : Rl k n (ixor .i64 x (isub .i64 ((2 ^ (n + k) : Nat) : Int) 1)) (ixor .i64 y (isub .i64 ((2 ^ n : Nat) : Int) 1)) := by
  obtain ⟨X, h1, rfl, rfl⟩ := h
  rw [xor_is h1 hN, xor_is (Rl.coarse h1) (by omega)]
  exact ⟨2 ^ (n + k) - 1 - X, by have := Nat.two_pow_pos (n + k); omega, rfl, by rw [flip_div h1]⟩
theorem Rl.add {k n b : Nat} {x y : Int} (hb : b ≤ 1) (h : Rl k n x y) : Rl k (n + 1) (x + ((b * 2 ^ (n + k) : Nat) : Int)) (y + ((b * 2 ^ n : Nat) : Int)) := by
  obtain ⟨X, h1, rfl, rfl⟩ := h
  refine ⟨X + b * 2 ^ (n + k), ?_, by push_cast; rfl, by rw [add_div h1]; push_cast; rfl⟩
  have e : 2 ^ (n + 1 + k) = 2 * 2 ^ (n + k) := by rw [show n + 1 + k = (n + k) + 1 by omega, Nat.pow_succ, Nat.mul_comm]
  have := Nat.mul_le_mul_right (2 ^ (n + k)) hb
  omega
structure R (k n L : Nat) (xs ys : List Int) : Prop where
  l1 : xs.length = L
  l2 : ys.length = L
  el : ∀ i, i < L → Rl k n (xs.getD i 0) (ys.getD i 0)
theorem getD_set {xs : List Int} {m i : Nat} {v : Int} (hm : m < xs.length) : (xs.set m v).getD i 0 = if m = i then v else xs.getD i 0 := by
  simp only [List.getD_eq_getElem?_getD, List.getElem?_set]
  by_cases h : m = i
  · subst h; simp [hm]
  · simp [h]
theorem R.set {k n L m : Nat} {xs ys : List Int} {v w : Int} (h : R k n L xs ys) (hm : m < L) (hv : Rl k n v w) : R k n L (xs.set m v) (ys.set m w) := by
  refine ⟨by simpa using h.l1, by simpa using h.l2, fun i hi => ?_⟩
  rw [getD_set (by rw [h.l1]; exact hm), getD_set (by rw [h.l2]; exact hm)]
  by_cases e : m = i
  · rw [if_pos e, if_pos e]; exact hv
  · rw [if_neg e, if_neg e]; exact h.el i hi
theorem idx_getD {xs : List Int} {i : Int} (h0 : 0 ≤ i) (h1 : i.toNat < xs.length) : idx xs i = some (xs.getD i.toNat 0) := by
  unfold idx
  rw [if_pos h0, List.getElem?_eq_getElem h1, List.getD_eq_getElem?_getD, List.getElem?_eq_getElem h1]; rfl
def Both (k n L : Nat) (p q : Option (List Int)) : Prop := ∃ xs ys, p = some xs ∧ q = some ys ∧ R k n L xs ys
theorem both_br {k n L : Nat} {A A' B B' : Option (List Int)} (x : Bool) (h1 : Both k n L A A') (h2 : Both k n L B B') : Both k n L (br x A B) (br x A' B') := by
  cases x
  · rw [br_false, br_false]; exact h2
  · rw [br_true, br_true]; exact h1
theorem both_seq {k n L : Nat} {A A' : Option (List Int)} {F F' : List Int → Option (List Int)} (h1 : Both k n L A A') (h2 : ∀ xs ys, R k n L xs ys → Both k n L (F xs) (F' ys)) : Both k n L (A >>= F) (A' >>= F') := by
  obtain ⟨xs, ys, e1, e2, h⟩ := h1
  rw [e1, e2, sbind, sbind]
  exact h2 xs ys h
theorem both_some {k n L : Nat} {xs ys : List Int} (h : R k n L xs ys) : Both k n L (some xs) (some ys) := ⟨_, _, rfl, rfl, h⟩

/-! #### the turns -/
section
variable {k n L : Nat} {xs ys : List Int} {i j : Int}
theorem op_swap (K K' : Nat) (N M : Int) (h : R k n L xs ys) (hi : 0 ≤ i) (hj : 0 ≤ j) (hi' : i.toNat < L) (hj' : j.toNat < L) : Both k n L (curve_swap_do K i j N xs) (curve_swap_do K' i j M ys) := by
  unfold curve_swap_do
  rw [idx_getD hj (by rw [h.l1]; exact hj'), sbind, idx_getD hi (by rw [h.l1]; exact hi'), sbind, sbind, idx_getD hj (by rw [List.length_set, h.l1]; exact hj'), sbind]
  rw [idx_getD hj (by rw [h.l2]; exact hj'), sbind, idx_getD hi (by rw [h.l2]; exact hi'), sbind, sbind, idx_getD hj (by rw [List.length_set, h.l2]; exact hj'), sbind]
  exact both_some ((h.set hi' (h.el _ hj')).set hj' (h.el _ hi'))
theorem op_flip (K K' : Nat) (hN : n + k ≤ 62) (h : R k n L xs ys) (hi : 0 ≤ i) (hj : 0 ≤ j) (hi' : i.toNat < L) (hj' : j.toNat < L) : Both k n L (curve_flip_do K i j ((n + k : Nat) : Int) xs) (curve_flip_do K' i j (n : Int) ys) := by
  have e1 := shl_is (b := 1) (N := n + k) (by decide) hN
  have e2 := shl_is (b := 1) (N := n) (by decide) (by omega)
  rw [Nat.one_mul] at e1 e2
  have e1' : ishl .i64 1 ((n + k : Nat) : Int) = some ((2 ^ (n + k) : Nat) : Int) := e1
  have e2' : ishl .i64 1 (n : Int) = some ((2 ^ n : Nat) : Int) := e2
  unfold curve_flip_do
  rw [idx_getD hj (by rw [h.l1]; exact hj'), sbind, e1', sbind, idx_getD hi (by rw [h.l1]; exact hi'), sbind, sbind, sbind, idx_getD hj (by rw [List.length_set, h.l1]; exact hj'), sbind]
  rw [idx_getD hj (by rw [h.l2]; exact hj'), sbind, e2', sbind, idx_getD hi (by rw [h.l2]; exact hi'), sbind, sbind, sbind, idx_getD hj (by rw [List.length_set, h.l2]; exact hj'), sbind]
  exact both_some ((h.set hi' (Rl.flip hN (h.el _ hj'))).set hj' (Rl.flip hN (h.el _ hi')))
theorem op_invert (K K' : Nat) (hN : n + k ≤ 62) (h : R k n L xs ys) (hi : 0 ≤ i) (hj : 0 ≤ j) (hi' : i.toNat < L) (hj' : j.toNat < L) : Both k n L (curve_invert_do K i j ((n + k : Nat) : Int) xs) (curve_invert_do K' i j (n : Int) ys) := by
  have e1 := shl_is (b := 1) (N := n + k) (by decide) hN
  have e2 := shl_is (b := 1) (N := n) (by decide) (by omega)
  rw [Nat.one_mul] at e1 e2
  have e1' : ishl .i64 1 ((n + k : Nat) : Int) = some ((2 ^ (n + k) : Nat) : Int) := e1
  have e2' : ishl .i64 1 (n : Int) = some ((2 ^ n : Nat) : Int) := e2
  unfold curve_invert_do
  rw [idx_getD hi (by rw [h.l1]; exact hi'), sbind, e1', sbind, idx_getD hj (by rw [h.l1]; exact hj'), sbind, sbind, sbind, idx_getD hj (by rw [List.length_set, h.l1]; exact hj'), sbind]
  rw [idx_getD hi (by rw [h.l2]; exact hi'), sbind, e2', sbind, idx_getD hj (by rw [h.l2]; exact hj'), sbind, sbind, sbind, idx_getD hj (by rw [List.length_set, h.l2]; exact hj'), sbind]
  exact both_some ((h.set hi' (Rl.flip hN (h.el _ hi'))).set hj' (Rl.flip hN (h.el _ hj')))
theorem rot2 (K K' : Nat) (o o' e : Int) (hN : n + k ≤ 62) (h : R k n 2 xs ys) : Both k n 2 (curve_Hilbert2D_rot K o ((n + k : Nat) : Int) xs e) (curve_Hilbert2D_rot K' o' (n : Int) ys e) := by
  unfold curve_Hilbert2D_rot
  refine both_br _ (both_seq (op_swap K K' _ _ h (by decide) (by decide) (by decide) (by decide)) fun _ _ => both_some) (both_br _ (both_seq (op_flip K K' hN h (by decide) (by decide) (by decide) (by decide)) fun _ _ => both_some) (both_some h))
theorem do_ss {a b c d : Int} (K K' : Nat) (x : Bool) (N M : Int) (h : R k n L xs ys) (ha : 0 ≤ a) (hb : 0 ≤ b) (hc : 0 ≤ c) (hd : 0 ≤ d) (ha' : a.toNat < L) (hb' : b.toNat < L) (hc' : c.toNat < L) (hd' : d.toNat < L) : Both k n L (curve_swap K x N xs a b c d) (curve_swap K' x M ys a b c d) := by
  unfold curve_swap
  refine both_br _ (both_seq (op_swap K K' _ _ h hc hd hc' hd') fun _ _ h2 => both_seq (op_swap K K' _ _ h2 ha hb ha' hb') fun _ _ => both_some) (both_seq (op_swap K K' _ _ h ha hb ha' hb') fun _ _ h2 => both_seq (op_swap K K' _ _ h2 hc hd hc' hd') fun _ _ => both_some)
theorem do_ff {a b c d : Int} (K K' : Nat) (x : Bool) (hN : n + k ≤ 62) (h : R k n L xs ys) (ha : 0 ≤ a) (hb : 0 ≤ b) (hc : 0 ≤ c) (hd : 0 ≤ d) (ha' : a.toNat < L) (hb' : b.toNat < L) (hc' : c.toNat < L) (hd' : d.toNat < L) : Both k n L (curve_flip K x ((n + k : Nat) : Int) xs a b c d) (curve_flip K' x (n : Int) ys a b c d) := by
  unfold curve_flip
  refine both_br _ (both_seq (op_flip K K' hN h hc hd hc' hd') fun _ _ h2 => both_seq (op_flip K K' hN h2 ha hb ha' hb') fun _ _ => both_some) (both_seq (op_flip K K' hN h ha hb ha' hb') fun _ _ h2 => both_seq (op_flip K K' hN h2 hc hd hc' hd') fun _ _ => both_some)
theorem do_fs {a b c d : Int} (K K' : Nat) (x : Bool) (hN : n + k ≤ 62) (h : R k n L xs ys) (ha : 0 ≤ a) (hb : 0 ≤ b) (hc : 0 ≤ c) (hd : 0 ≤ d) (ha' : a.toNat < L) (hb' : b.toNat < L) (hc' : c.toNat < L) (hd' : d.toNat < L) : Both k n L (curve_swap_v2 K x ((n + k : Nat) : Int) xs a b c d) (curve_swap_v2 K' x (n : Int) ys a b c d) := by
  unfold curve_swap_v2
  refine both_br _ (both_seq (op_swap K K' _ _ h hc hd hc' hd') fun _ _ h2 => both_seq (op_flip K K' hN h2 ha hb ha' hb') fun _ _ => both_some) (both_seq (op_flip K K' hN h ha hb ha' hb') fun _ _ h2 => both_seq (op_swap K K' _ _ h2 hc hd hc' hd') fun _ _ => both_some)
theorem rot3 (K K' : Nat) (o o' e : Int) (x : Bool) (hN : n + k ≤ 62) (h : R k n 3 xs ys) : Both k n 3 (curve_Hilbert3D_rot K o x ((n + k : Nat) : Int) xs e) (curve_Hilbert3D_rot K' o' x (n : Int) ys e) := by
  have t3 : ∀ z, Both k n 3 (curve_Hilbert3D_rot_j3 K x ((n + k : Nat) : Int) xs e z) (curve_Hilbert3D_rot_j3 K' x (n : Int) ys e z) := fun z => by
    unfold curve_Hilbert3D_rot_j3
    refine both_br _ (both_seq (do_ff K K' x hN h (by decide) (by decide) (by decide) (by decide) (by decide) (by decide) (by decide) (by decide)) fun _ _ => both_some) (both_br _ (both_seq (do_ff K K' x hN h (by decide) (by decide) (by decide) (by decide) (by decide) (by decide) (by decide) (by decide)) fun _ _ => both_some) (both_some h))
  have t2 : ∀ z, Both k n 3 (curve_Hilbert3D_rot_j2 K ((n + k : Nat) : Int) xs e x z) (curve_Hilbert3D_rot_j2 K' (n : Int) ys e x z) := fun z => by
    unfold curve_Hilbert3D_rot_j2
    refine both_br _ (both_seq (op_invert K K' hN h (by decide) (by decide) (by decide) (by decide)) fun _ _ => both_some) (both_br _ (t3 _) (t3 _))
  have t1 : ∀ z, Both k n 3 (curve_Hilbert3D_rot_j1 K x ((n + k : Nat) : Int) xs e z) (curve_Hilbert3D_rot_j1 K' x (n : Int) ys e z) := fun z => by
    unfold curve_Hilbert3D_rot_j1
    refine both_br _ (both_seq (do_ss K K' x _ _ h (by decide) (by decide) (by decide) (by decide) (by decide) (by decide) (by decide) (by decide)) fun _ _ => both_some) (both_br _ (t2 _) (t2 _))
  unfold curve_Hilbert3D_rot
  refine both_br _ (both_seq (do_ss K K' x _ _ h (by decide) (by decide) (by decide) (by decide) (by decide) (by decide) (by decide) (by decide)) fun _ _ => both_some) (both_br _ (t1 _) (t1 _))
theorem rot4 (K K' : Nat) (o o' e : Int) (x : Bool) (hN : n + k ≤ 62) (h : R k n 4 xs ys) : Both k n 4 (curve_Hilbert4D_rot K o x ((n + k : Nat) : Int) xs e) (curve_Hilbert4D_rot K' o' x (n : Int) ys e) := by
  have t7 : ∀ z, Both k n 4 (curve_Hilbert4D_rot_j7 K x ((n + k : Nat) : Int) xs e z) (curve_Hilbert4D_rot_j7 K' x (n : Int) ys e z) := fun z => by
    unfold curve_Hilbert4D_rot_j7
    refine both_br _ (both_seq (do_ff K K' x hN h (by decide) (by decide) (by decide) (by decide) (by decide) (by decide) (by decide) (by decide)) fun _ _ => both_some) (both_br _ (both_seq (do_ff K K' x hN h (by decide) (by decide) (by decide) (by decide) (by decide) (by decide) (by decide) (by decide)) fun _ _ => both_some) (both_some h))
  have t6 : ∀ z, Both k n 4 (curve_Hilbert4D_rot_j6 K x ((n + k : Nat) : Int) xs e z) (curve_Hilbert4D_rot_j6 K' x (n : Int) ys e z) := fun z => by
    unfold curve_Hilbert4D_rot_j6
    refine both_br _ (both_seq (do_ff K K' x hN h (by decide) (by decide) (by decide) (by decide) (by decide) (by decide) (by decide) (by decide)) fun _ _ => both_some) (both_br _ (t7 _) (t7 _))
  have t5 : ∀ z, Both k n 4 (curve_Hilbert4D_rot_j5 K x ((n + k : Nat) : Int) xs e z) (curve_Hilbert4D_rot_j5 K' x (n : Int) ys e z) := fun z => by
    unfold curve_Hilbert4D_rot_j5
    refine both_br _ (both_seq (do_ff K K' x hN h (by decide) (by decide) (by decide) (by decide) (by decide) (by decide) (by decide) (by decide)) fun _ _ => both_some) (both_br _ (t6 _) (t6 _))
  have t4 : ∀ z, Both k n 4 (curve_Hilbert4D_rot_j4 K ((n + k : Nat) : Int) xs e x z) (curve_Hilbert4D_rot_j4 K' (n : Int) ys e x z) := fun z => by
    unfold curve_Hilbert4D_rot_j4
    refine both_br _ (both_seq (op_invert K K' hN h (by decide) (by decide) (by decide) (by decide)) fun _ _ => both_some) (both_br _ (t5 _) (t5 _))
  have t3 : ∀ z, Both k n 4 (curve_Hilbert4D_rot_j3 K x ((n + k : Nat) : Int) xs e z) (curve_Hilbert4D_rot_j3 K' x (n : Int) ys e z) := fun z => by
    unfold curve_Hilbert4D_rot_j3
    refine both_br _ (both_seq (do_fs K K' x hN h (by decide) (by decide) (by decide) (by decide) (by decide) (by decide) (by decide) (by decide)) fun _ _ => both_some) (both_br _ (t4 _) (t4 _))
  have t2 : ∀ z, Both k n 4 (curve_Hilbert4D_rot_j2 K x ((n + k : Nat) : Int) xs e z) (curve_Hilbert4D_rot_j2 K' x (n : Int) ys e z) := fun z => by
    unfold curve_Hilbert4D_rot_j2
    refine both_br _ (both_seq (do_fs K K' x hN h (by decide) (by decide) (by decide) (by decide) (by decide) (by decide) (by decide) (by decide)) fun _ _ => both_some) (both_br _ (t3 _) (t3 _))
  have t1 : ∀ z, Both k n 4 (curve_Hilbert4D_rot_j1 K x ((n + k : Nat) : Int) xs e z) (curve_Hilbert4D_rot_j1 K' x (n : Int) ys e z) := fun z => by
    unfold curve_Hilbert4D_rot_j1
    refine both_br _ (both_seq (do_ss K K' x _ _ h (by decide) (by decide) (by decide) (by decide) (by decide) (by decide) (by decide) (by decide)) fun _ _ => both_some) (both_br _ (t2 _) (t2 _))
  unfold curve_Hilbert4D_rot
  refine both_br _ (both_seq (do_ss K K' x _ _ h (by decide) (by decide) (by decide) (by decide) (by decide) (by decide) (by decide) (by decide)) fun _ _ => both_some) (both_br _ (t1 _) (t1 _))
end

/-! #### a round -/
theorem iand_is {p t : Nat} (hp : p < 2 ^ 62) (ht : t < 10) : iand .i64 (p : Int) ((2 ^ t - 1 : Nat) : Int) = ((p % 2 ^ t : Nat) : Int) := by
  have h1 : 2 ^ t ≤ 2 ^ 9 := Nat.pow_le_pow_right (by decide) (by omega)
  unfold iand
  show IntKind.wrap .i64 ((BitVec.ofInt 64 (p : Int) &&& BitVec.ofInt 64 ((2 ^ t - 1 : Nat) : Int)).toNat : Int) = _
  have h2 : p % 2 ^ t < 2 ^ t := Nat.mod_lt _ (Nat.two_pow_pos t)
  rw [BitVec.toNat_and, bv_nat64 p (by omega), bv_nat64 (2 ^ t - 1) (by omega), Nat.and_two_pow_sub_one_eq_mod]
  exact wrap_i64 (by omega) (by omega)
theorem add_ok {k n b : Nat} {x y : Int} (hN : n + k ≤ 61) (hb : b ≤ 1) (h : Rl k n x y) : iadd .i64 x ((b * 2 ^ (n + k) : Nat) : Int) = x + ((b * 2 ^ (n + k) : Nat) : Int) ∧ iadd .i64 y ((b * 2 ^ n : Nat) : Int) = y + ((b * 2 ^ n : Nat) : Int) := by
  obtain ⟨X, h1, rfl, rfl⟩ := h
  have h2 := Rl.coarse h1
  have h3 := pow_62 (n := n + k) (by omega)
  have h4 := pow_62 (n := n) (by omega)
  have h5 := Nat.mul_le_mul_right (2 ^ (n + k)) hb
  have h6 := Nat.mul_le_mul_right (2 ^ n) hb
  generalize X / 2 ^ k = q at *
  generalize b * 2 ^ (n + k) = u at *
  generalize b * 2 ^ n = v at *
  constructor <;> exact iadd_i64 (by omega) (by omega)
structure Mach (d : Nat) (l1 : Int → Nat → List Int × Int × Int → Option (List Int)) : Prop where
  step : ∀ (k n p : Nat) (xs ys : List Int) (o o' : Int) (K K' : Nat), R k n d xs ys → n + k ≤ 40 → p < 2 ^ 62 → ((n + k : Nat) : Int) < o → (n : Int) < o' →
    ∃ xs' ys', l1 o (K + 1) (xs, (p : Int), ((n + k : Nat) : Int)) = l1 o K (xs', ((p / 2 ^ d : Nat) : Int), ((n + k + 1 : Nat) : Int)) ∧ R k (n + 1) d xs' ys' ∧
      l1 o' (K' + 1) (ys, (p : Int), (n : Int)) = l1 o' K' (ys', ((p / 2 ^ d : Nat) : Int), ((n + 1 : Nat) : Int)) ∧ (k = 0 → xs = ys → xs' = ys')
  stop : ∀ (o : Int) (K : Nat) (xs : List Int) (p n : Int), ¬ n < o → l1 o (K + 1) (xs, p, n) = some xs
theorem R.list2 {k n : Nat} {xs ys : List Int} (h : R k n 2 xs ys) : ∃ x0 x1 y0 y1, xs = [x0, x1] ∧ ys = [y0, y1] ∧ Rl k n x0 y0 ∧ Rl k n x1 y1 := by
  obtain ⟨l1, l2, el⟩ := h
  match xs, ys, l1, l2 with
  | [x0, x1], [y0, y1], _, _ => exact ⟨x0, x1, y0, y1, rfl, rfl, el 0 (by decide), el 1 (by decide)⟩
theorem R.list3 {k n : Nat} {xs ys : List Int} (h : R k n 3 xs ys) : ∃ x0 x1 x2 y0 y1 y2, xs = [x0, x1, x2] ∧ ys = [y0, y1, y2] ∧ Rl k n x0 y0 ∧ Rl k n x1 y1 ∧ Rl k n x2 y2 := by
  obtain ⟨l1, l2, el⟩ := h
  match xs, ys, l1, l2 with
  | [x0, x1, x2], [y0, y1, y2], _, _ => exact ⟨x0, x1, x2, y0, y1, y2, rfl, rfl, el 0 (by decide), el 1 (by decide), el 2 (by decide)⟩
theorem R.list4 {k n : Nat} {xs ys : List Int} (h : R k n 4 xs ys) : ∃ x0 x1 x2 x3 y0 y1 y2 y3, xs = [x0, x1, x2, x3] ∧ ys = [y0, y1, y2, y3] ∧ Rl k n x0 y0 ∧ Rl k n x1 y1 ∧ Rl k n x2 y2 ∧ Rl k n x3 y3 := by
  obtain ⟨l1, l2, el⟩ := h
  match xs, ys, l1, l2 with
  | [x0, x1, x2, x3], [y0, y1, y2, y3], _, _ => exact ⟨x0, x1, x2, x3, y0, y1, y2, y3, rfl, rfl, el 0 (by decide), el 1 (by decide), el 2 (by decide), el 3 (by decide)⟩
theorem R.of2 {k n : Nat} {x0 x1 y0 y1 : Int} (h0 : Rl k n x0 y0) (h1 : Rl k n x1 y1) : R k n 2 [x0, x1] [y0, y1] :=
  ⟨rfl, rfl, fun i hi => by
    rcases (show i = 0 ∨ i = 1 by omega) with rfl | rfl
    · exact h0
    · exact h1⟩
theorem R.of3 {k n : Nat} {x0 x1 x2 y0 y1 y2 : Int} (h0 : Rl k n x0 y0) (h1 : Rl k n x1 y1) (h2 : Rl k n x2 y2) : R k n 3 [x0, x1, x2] [y0, y1, y2] :=
  ⟨rfl, rfl, fun i hi => by
    rcases (show i = 0 ∨ i = 1 ∨ i = 2 by omega) with rfl | rfl | rfl
    · exact h0
    · exact h1
    · exact h2⟩
theorem R.of4 {k n : Nat} {x0 x1 x2 x3 y0 y1 y2 y3 : Int} (h0 : Rl k n x0 y0) (h1 : Rl k n x1 y1) (h2 : Rl k n x2 y2) (h3 : Rl k n x3 y3) : R k n 4 [x0, x1, x2, x3] [y0, y1, y2, y3] :=
  ⟨rfl, rfl, fun i hi => by
    rcases (show i = 0 ∨ i = 1 ∨ i = 2 ∨ i = 3 by omega) with rfl | rfl | rfl | rfl
    · exact h0
    · exact h1
    · exact h2
    · exact h3⟩
theorem bits2 (e : Nat) (h : e < 4) : ∃ b0 b1 : Nat, b0 ≤ 1 ∧ b1 ≤ 1 ∧ ∃ s0 : Int, ishr .i64 (e : Int) 1 = some (b1 : Int) ∧ ishr .i64 (e : Int) 0 = some s0 ∧ iand .i64 (ixor .i64 s0 (b1 : Int)) 1 = (b0 : Int) := by
  rcases (show e = 0 ∨ e = 1 ∨ e = 2 ∨ e = 3 by omega) with rfl | rfl | rfl | rfl
  · exact ⟨0, 0, by decide, by decide, 0, rfl, rfl, rfl⟩
  · exact ⟨1, 0, by decide, by decide, 1, rfl, rfl, rfl⟩
  · exact ⟨1, 1, by decide, by decide, 2, rfl, rfl, rfl⟩
  · exact ⟨0, 1, by decide, by decide, 3, rfl, rfl, rfl⟩
theorem bits3 (e : Nat) (h : e < 8) : ∃ b0 b1 b2 : Nat, b0 ≤ 1 ∧ b1 ≤ 1 ∧ b2 ≤ 1 ∧ ∃ s0 s1 : Int, ishr .i64 (e : Int) 2 = some (b2 : Int) ∧ ishr .i64 (e : Int) 1 = some s1 ∧ ishr .i64 (e : Int) 0 = some s0 ∧ iand .i64 (ixor .i64 s0 s1) 1 = (b0 : Int) ∧ iand .i64 (ixor .i64 s1 (b2 : Int)) 1 = (b1 : Int) := by
  rcases (show e = 0 ∨ e = 1 ∨ e = 2 ∨ e = 3 ∨ e = 4 ∨ e = 5 ∨ e = 6 ∨ e = 7 by omega) with rfl | rfl | rfl | rfl | rfl | rfl | rfl | rfl
  · exact ⟨0, 0, 0, by decide, by decide, by decide, 0, 0, rfl, rfl, rfl, rfl, rfl⟩
  · exact ⟨1, 0, 0, by decide, by decide, by decide, 1, 0, rfl, rfl, rfl, rfl, rfl⟩
  · exact ⟨1, 1, 0, by decide, by decide, by decide, 2, 1, rfl, rfl, rfl, rfl, rfl⟩
  · exact ⟨0, 1, 0, by decide, by decide, by decide, 3, 1, rfl, rfl, rfl, rfl, rfl⟩
  · exact ⟨0, 1, 1, by decide, by decide, by decide, 4, 2, rfl, rfl, rfl, rfl, rfl⟩
  · exact ⟨1, 1, 1, by decide, by decide, by decide, 5, 2, rfl, rfl, rfl, rfl, rfl⟩
  · exact ⟨1, 0, 1, by decide, by decide, by decide, 6, 3, rfl, rfl, rfl, rfl, rfl⟩
  · exact ⟨0, 0, 1, by decide, by decide, by decide, 7, 3, rfl, rfl, rfl, rfl, rfl⟩
theorem bits4 (e : Nat) (h : e < 16) : ∃ b0 b1 b2 b3 : Nat, b0 ≤ 1 ∧ b1 ≤ 1 ∧ b2 ≤ 1 ∧ b3 ≤ 1 ∧ ∃ t1 t2 t3 t4 : Int, ishr .i64 (e : Int) 1 = some t1 ∧ ishr .i64 t1 1 = some t2 ∧ ishr .i64 t2 1 = some t3 ∧ ishr .i64 t3 1 = some t4 ∧
    iand .i64 (ixor .i64 (e : Int) t1) 1 = (b0 : Int) ∧ iand .i64 (ixor .i64 t1 t2) 1 = (b1 : Int) ∧ iand .i64 (ixor .i64 t2 t3) 1 = (b2 : Int) ∧ iand .i64 (ixor .i64 t3 t4) 1 = (b3 : Int) := by
  rcases (show e = 0 ∨ e = 1 ∨ e = 2 ∨ e = 3 ∨ e = 4 ∨ e = 5 ∨ e = 6 ∨ e = 7 ∨ e = 8 ∨ e = 9 ∨ e = 10 ∨ e = 11 ∨ e = 12 ∨ e = 13 ∨ e = 14 ∨ e = 15 by omega) with rfl | rfl | rfl | rfl | rfl | rfl | rfl | rfl | rfl | rfl | rfl | rfl | rfl | rfl | rfl | rfl
  · exact ⟨0, 0, 0, 0, by decide, by decide, by decide, by decide, 0, 0, 0, 0, rfl, rfl, rfl, rfl, rfl, rfl, rfl, rfl⟩
  · exact ⟨1, 0, 0, 0, by decide, by decide, by decide, by decide, 0, 0, 0, 0, rfl, rfl, rfl, rfl, rfl, rfl, rfl, rfl⟩
  · exact ⟨1, 1, 0, 0, by decide, by decide, by decide, by decide, 1, 0, 0, 0, rfl, rfl, rfl, rfl, rfl, rfl, rfl, rfl⟩
  · exact ⟨0, 1, 0, 0, by decide, by decide, by decide, by decide, 1, 0, 0, 0, rfl, rfl, rfl, rfl, rfl, rfl, rfl, rfl⟩
  · exact ⟨0, 1, 1, 0, by decide, by decide, by decide, by decide, 2, 1, 0, 0, rfl, rfl, rfl, rfl, rfl, rfl, rfl, rfl⟩
  · exact ⟨1, 1, 1, 0, by decide, by decide, by decide, by decide, 2, 1, 0, 0, rfl, rfl, rfl, rfl, rfl, rfl, rfl, rfl⟩
  · exact ⟨1, 0, 1, 0, by decide, by decide, by decide, by decide, 3, 1, 0, 0, rfl, rfl, rfl, rfl, rfl, rfl, rfl, rfl⟩
  · exact ⟨0, 0, 1, 0, by decide, by decide, by decide, by decide, 3, 1, 0, 0, rfl, rfl, rfl, rfl, rfl, rfl, rfl, rfl⟩
  · exact ⟨0, 0, 1, 1, by decide, by decide, by decide, by decide, 4, 2, 1, 0, rfl, rfl, rfl, rfl, rfl, rfl, rfl, rfl⟩
  · exact ⟨1, 0, 1, 1, by decide, by decide, by decide, by decide, 4, 2, 1, 0, rfl, rfl, rfl, rfl, rfl, rfl, rfl, rfl⟩
  · exact ⟨1, 1, 1, 1, by decide, by decide, by decide, by decide, 5, 2, 1, 0, rfl, rfl, rfl, rfl, rfl, rfl, rfl, rfl⟩
  · exact ⟨0, 1, 1, 1, by decide, by decide, by decide, by decide, 5, 2, 1, 0, rfl, rfl, rfl, rfl, rfl, rfl, rfl, rfl⟩
  · exact ⟨0, 1, 0, 1, by decide, by decide, by decide, by decide, 6, 3, 1, 0, rfl, rfl, rfl, rfl, rfl, rfl, rfl, rfl⟩
  · exact ⟨1, 1, 0, 1, by decide, by decide, by decide, by decide, 6, 3, 1, 0, rfl, rfl, rfl, rfl, rfl, rfl, rfl, rfl⟩
  · exact ⟨1, 0, 0, 1, by decide, by decide, by decide, by decide, 7, 3, 1, 0, rfl, rfl, rfl, rfl, rfl, rfl, rfl, rfl⟩
  · exact ⟨0, 0, 0, 1, by decide, by decide, by decide, by decide, 7, 3, 1, 0, rfl, rfl, rfl, rfl, rfl, rfl, rfl, rfl⟩
theorem d2 (b : Bool) (A B : Option (List Int)) (h : b = true) : br b A B = A := by subst h; rfl
theorem mach2 : Mach 2 curve_Hilbert2D_Coord_l1 where
  stop o K xs p n h := by
    simp only [curve_Hilbert2D_Coord_l1, curve_Hilbert2D_Coord_l1s, decide_eq_false h, br_false]
  step k n p xs ys o o' K K' h hN hp ho ho' := by
    have he : iand .i64 (p : Int) 3 = ((p % 4 : Nat) : Int) := iand_is (t := 2) hp (by decide)
    obtain ⟨r, r', e1, e2, hr⟩ := rot2 K K' o o' ((p % 4 : Nat) : Int) (by omega) h
    obtain ⟨x0, x1, y0, y1, rfl, rfl, h0, h1⟩ := hr.list2
    obtain ⟨b0, b1, c0, c1, s0, f1, f2, f3⟩ := bits2 (p % 4) (by omega)
    have g0 := shl_is (N := n + k) c0 (by omega)
    have g1 := shl_is (N := n + k) c1 (by omega)
    have g0' := shl_is (N := n) c0 (by omega)
    have g1' := shl_is (N := n) c1 (by omega)
    have hs : ishr .i64 (p : Int) 2 = some ((p / 2 ^ 2 : Nat) : Int) := shr_is (N := 2) (by decide)
    obtain ⟨a0, a0'⟩ := add_ok (b := b0) (by omega) c0 h0
    obtain ⟨a1, a1'⟩ := add_ok (b := b1) (by omega) c1 h1
    refine ⟨_, _, ?_, R.of2 (h0.add c0) (h1.add c1), ?_, ?_⟩
    · rw [curve_Hilbert2D_Coord_l1, curve_Hilbert2D_Coord_l1s]
      dsimp only
      rw [decide_eq_true ho, br_true, he, e1, sbind, f1, sbind, f2, sbind, sbind, f3]
      rw [show idx [x0, x1] 0 = some x0 from rfl, sbind, g0, sbind, sbind]
      rw [show [x0, x1].set (0 : Int).toNat (iadd .i64 x0 ((b0 * 2 ^ (n + k) : Nat) : Int)) = [iadd .i64 x0 ((b0 * 2 ^ (n + k) : Nat) : Int), x1] from rfl]
      rw [show idx [iadd .i64 x0 ((b0 * 2 ^ (n + k) : Nat) : Int), x1] 1 = some x1 from rfl, sbind, g1, sbind, sbind, hs, sbind]
      rw [a0, a1, iadd_i64 (by omega) (by omega)]
      rfl
    · rw [curve_Hilbert2D_Coord_l1, curve_Hilbert2D_Coord_l1s]
      dsimp only
      rw [decide_eq_true ho', br_true, he, e2, sbind, f1, sbind, f2, sbind, sbind, f3]
      rw [show idx [y0, y1] 0 = some y0 from rfl, sbind, g0', sbind, sbind]
      rw [show [y0, y1].set (0 : Int).toNat (iadd .i64 y0 ((b0 * 2 ^ n : Nat) : Int)) = [iadd .i64 y0 ((b0 * 2 ^ n : Nat) : Int), y1] from rfl]
      rw [show idx [iadd .i64 y0 ((b0 * 2 ^ n : Nat) : Int), y1] 1 = some y1 from rfl, sbind, g1', sbind, sbind, hs, sbind]
      rw [a0', a1', iadd_i64 (by omega) (by omega)]
      rfl
    · intro hk hxy
      subst hk
      obtain ⟨X0, _, q0, q0'⟩ := h0
      obtain ⟨X1, _, q1, q1'⟩ := h1
      rw [q0, q0', q1, q1']
      simp
theorem mach3 : Mach 3 curve_Hilbert3D_Coord_l1 where
  stop o K xs p n h := by
    simp only [curve_Hilbert3D_Coord_l1, curve_Hilbert3D_Coord_l1s, decide_eq_false h, br_false]
  step k n p xs ys o o' K K' h hN hp ho ho' := by
    have he : iand .i64 (p : Int) 7 = ((p % 8 : Nat) : Int) := iand_is (t := 3) hp (by decide)
    obtain ⟨r, r', e1, e2, hr⟩ := rot3 K K' o o' ((p % 8 : Nat) : Int) true (by omega) h
    obtain ⟨x0, x1, x2, y0, y1, y2, rfl, rfl, h0, h1, h2⟩ := hr.list3
    obtain ⟨b0, b1, b2, c0, c1, c2, s0, s1, f1, f2, f3, f4, f5⟩ := bits3 (p % 8) (by omega)
    have g0 := shl_is (N := n + k) c0 (by omega)
    have g1 := shl_is (N := n + k) c1 (by omega)
    have g2 := shl_is (N := n + k) c2 (by omega)
    have g0' := shl_is (N := n) c0 (by omega)
    have g1' := shl_is (N := n) c1 (by omega)
    have g2' := shl_is (N := n) c2 (by omega)
    have hs : ishr .i64 (p : Int) 3 = some ((p / 2 ^ 3 : Nat) : Int) := shr_is (N := 3) (by decide)
    obtain ⟨a0, a0'⟩ := add_ok (b := b0) (by omega) c0 h0
    obtain ⟨a1, a1'⟩ := add_ok (b := b1) (by omega) c1 h1
    obtain ⟨a2, a2'⟩ := add_ok (b := b2) (by omega) c2 h2
    have key : ∀ (N : Nat) (z0 z1 z2 u0 u1 u2 : Int) (o : Int) (K : Nat) (xs : List Int), (N : Int) < o → N ≤ 60 → curve_Hilbert3D_rot K o true (N : Int) xs ((p % 8 : Nat) : Int) = some [z0, z1, z2] →
        ishl .i64 (b0 : Int) (N : Int) = some u0 → ishl .i64 (b1 : Int) (N : Int) = some u1 → ishl .i64 (b2 : Int) (N : Int) = some u2 →
        curve_Hilbert3D_Coord_l1 o (K + 1) (xs, (p : Int), (N : Int)) = curve_Hilbert3D_Coord_l1 o K ([iadd .i64 z0 u0, iadd .i64 z1 u1, iadd .i64 z2 u2], ((p / 2 ^ 3 : Nat) : Int), ((N + 1 : Nat) : Int)) := by
      intro N z0 z1 z2 u0 u1 u2 o K xs ho hN60 e1 g0 g1 g2
      rw [curve_Hilbert3D_Coord_l1, curve_Hilbert3D_Coord_l1s]
      dsimp only
      rw [decide_eq_true ho, br_true, he, e1, sbind, f1, sbind, f2, sbind, sbind, f3, sbind, sbind]
      rw [show idx [z0, z1, z2] 0 = some z0 from rfl, sbind, f4, g0, sbind, sbind]
      rw [show [z0, z1, z2].set (0 : Int).toNat (iadd .i64 z0 u0) = [iadd .i64 z0 u0, z1, z2] from rfl]
      rw [show idx [iadd .i64 z0 u0, z1, z2] 1 = some z1 from rfl, sbind, f5, g1, sbind, sbind]
      rw [show [iadd .i64 z0 u0, z1, z2].set (1 : Int).toNat (iadd .i64 z1 u1) = [iadd .i64 z0 u0, iadd .i64 z1 u1, z2] from rfl]
      rw [show idx [iadd .i64 z0 u0, iadd .i64 z1 u1, z2] 2 = some z2 from rfl, sbind, g2, sbind, sbind, hs, sbind]
      rw [iadd_i64 (a := (N : Int)) (b := 1) (by omega) (by omega)]
      rfl
    have k1 := key (n + k) x0 x1 x2 _ _ _ o K xs ho (by omega) e1 g0 g1 g2
    have k2 := key n y0 y1 y2 _ _ _ o' K' ys ho' (by omega) e2 g0' g1' g2'
    rw [a0, a1, a2] at k1
    rw [a0', a1', a2'] at k2
    refine ⟨_, _, k1, R.of3 (h0.add c0) (h1.add c1) (h2.add c2), k2, ?_⟩
    intro hk hxy
    subst hk
    obtain ⟨X0, _, q0, q0'⟩ := h0
    obtain ⟨X1, _, q1, q1'⟩ := h1
    obtain ⟨X2, _, q2, q2'⟩ := h2
    rw [q0, q0', q1, q1', q2, q2']
    simp
theorem mach4 : Mach 4 curve_Hilbert4D_Coord_l1 where
  stop o K xs p n h := by
    simp only [curve_Hilbert4D_Coord_l1, curve_Hilbert4D_Coord_l1s, decide_eq_false h, br_false]
  step k n p xs ys o o' K K' h hN hp ho ho' := by
    have h16 : ishl .i64 1 4 = some 16 := by decide
    have h15 : isub .i64 16 1 = 15 := by decide
    have he : iand .i64 (p : Int) 15 = ((p % 16 : Nat) : Int) := iand_is (t := 4) hp (by decide)
    obtain ⟨r, r', e1, e2, hr⟩ := rot4 K K' o o' ((p % 16 : Nat) : Int) true (by omega) h
    obtain ⟨x0, x1, x2, x3, y0, y1, y2, y3, rfl, rfl, h0, h1, h2, h3⟩ := hr.list4
    obtain ⟨b0, b1, b2, b3, c0, c1, c2, c3, t1, t2, t3, t4, f1, f2, f3, f4, f5, f6, f7, f8⟩ := bits4 (p % 16) (by omega)
    have g0 := shl_is (N := n + k) c0 (by omega)
    have g1 := shl_is (N := n + k) c1 (by omega)
    have g2 := shl_is (N := n + k) c2 (by omega)
    have g3 := shl_is (N := n + k) c3 (by omega)
    have g0' := shl_is (N := n) c0 (by omega)
    have g1' := shl_is (N := n) c1 (by omega)
    have g2' := shl_is (N := n) c2 (by omega)
    have g3' := shl_is (N := n) c3 (by omega)
    have hs : ishr .i64 (p : Int) 4 = some ((p / 2 ^ 4 : Nat) : Int) := shr_is (N := 4) (by decide)
    obtain ⟨a0, a0'⟩ := add_ok (b := b0) (by omega) c0 h0
    obtain ⟨a1, a1'⟩ := add_ok (b := b1) (by omega) c1 h1
    obtain ⟨a2, a2'⟩ := add_ok (b := b2) (by omega) c2 h2
    obtain ⟨a3, a3'⟩ := add_ok (b := b3) (by omega) c3 h3
    have key : ∀ (N : Nat) (z0 z1 z2 z3 u0 u1 u2 u3 : Int) (o : Int) (K : Nat) (xs : List Int), (N : Int) < o → N ≤ 60 → curve_Hilbert4D_rot K o true (N : Int) xs ((p % 16 : Nat) : Int) = some [z0, z1, z2, z3] →
        ishl .i64 (b0 : Int) (N : Int) = some u0 → ishl .i64 (b1 : Int) (N : Int) = some u1 → ishl .i64 (b2 : Int) (N : Int) = some u2 → ishl .i64 (b3 : Int) (N : Int) = some u3 →
        curve_Hilbert4D_Coord_l1 o (K + 1) (xs, (p : Int), (N : Int)) = curve_Hilbert4D_Coord_l1 o K ([iadd .i64 z0 u0, iadd .i64 z1 u1, iadd .i64 z2 u2, iadd .i64 z3 u3], ((p / 2 ^ 4 : Nat) : Int), ((N + 1 : Nat) : Int)) := by
      intro N z0 z1 z2 z3 u0 u1 u2 u3 o K xs ho hN60 e1 g0 g1 g2 g3
      rw [curve_Hilbert4D_Coord_l1, curve_Hilbert4D_Coord_l1s]
      dsimp only
      rw [decide_eq_true ho, br_true, h16, sbind, h15, he, e1, sbind]
      rw [show idx [z0, z1, z2, z3] 0 = some z0 from rfl, sbind, f1, sbind, f5, g0, sbind, sbind, sbind]
      rw [show [z0, z1, z2, z3].set (0 : Int).toNat (iadd .i64 z0 u0) = [iadd .i64 z0 u0, z1, z2, z3] from rfl]
      rw [show idx [iadd .i64 z0 u0, z1, z2, z3] 1 = some z1 from rfl, sbind, f2, sbind, f6, g1, sbind, sbind, sbind]
      rw [show [iadd .i64 z0 u0, z1, z2, z3].set (1 : Int).toNat (iadd .i64 z1 u1) = [iadd .i64 z0 u0, iadd .i64 z1 u1, z2, z3] from rfl]
      rw [show idx [iadd .i64 z0 u0, iadd .i64 z1 u1, z2, z3] 2 = some z2 from rfl, sbind, f3, sbind, f7, g2, sbind, sbind, sbind]
      rw [show [iadd .i64 z0 u0, iadd .i64 z1 u1, z2, z3].set (2 : Int).toNat (iadd .i64 z2 u2) = [iadd .i64 z0 u0, iadd .i64 z1 u1, iadd .i64 z2 u2, z3] from rfl]
      rw [show idx [iadd .i64 z0 u0, iadd .i64 z1 u1, iadd .i64 z2 u2, z3] 3 = some z3 from rfl, sbind, f4, sbind, f8, g3, sbind, sbind, sbind, hs, sbind]
      rw [iadd_i64 (a := (N : Int)) (b := 1) (by omega) (by omega)]
      rfl
    have k1 := key (n + k) x0 x1 x2 x3 _ _ _ _ o K xs ho (by omega) e1 g0 g1 g2 g3
    have k2 := key n y0 y1 y2 y3 _ _ _ _ o' K' ys ho' (by omega) e2 g0' g1' g2' g3'
    rw [a0, a1, a2, a3] at k1
    rw [a0', a1', a2', a3'] at k2
    refine ⟨_, _, k1, R.of4 (h0.add c0) (h1.add c1) (h2.add c2) (h3.add c3), k2, ?_⟩
    intro hk hxy
    subst hk
    obtain ⟨X0, _, q0, q0'⟩ := h0
    obtain ⟨X1, _, q1, q1'⟩ := h1
    obtain ⟨X2, _, q2, q2'⟩ := h2
    obtain ⟨X3, _, q3, q3'⟩ := h3
    rw [q0, q0', q1, q1', q2, q2', q3, q3']
    simp

/-! #### the whole run -/
section
variable {d : Nat} {l1 : Int → Nat → List Int × Int × Int → Option (List Int)}
theorem div_step (p d m : Nat) : p / 2 ^ (d * m) / 2 ^ d = p / 2 ^ (d * (m + 1)) := by
  rw [Nat.div_div_eq_div_mul, ← Nat.pow_add]; rfl
theorem fine (M : Mach d l1) {o : Int} {p : Nat} (hp : p < 2 ^ 62) (K : Nat) {xs : List Int} (h0 : R 0 0 d xs xs) : ∀ m : Nat, m ≤ 40 → (m : Int) ≤ o → ∃ xs', l1 o (K + m) (xs, (p : Int), ((0 : Nat) : Int)) = l1 o K (xs', ((p / 2 ^ (d * m) : Nat) : Int), (m : Int)) ∧ R 0 m d xs' xs' := by
  intro m
  induction m generalizing K with
  | zero => intro _ _; exact ⟨xs, by simp, h0⟩
  | succ m ih =>
    intro hm ho
    obtain ⟨ys, e1, h1⟩ := ih (K + 1) (by omega) (by omega)
    have hq : p / 2 ^ (d * m) < 2 ^ 62 := Nat.lt_of_le_of_lt (Nat.div_le_self _ _) hp
    obtain ⟨xs', ys', e2, h2, e3, h3⟩ := M.step 0 m (p / 2 ^ (d * m)) ys ys o o K K h1 (by omega) hq (by omega) (by omega)
    have := h3 rfl rfl
    subst this
    refine ⟨xs', ?_, h2⟩
    rw [show K + (m + 1) = K + 1 + m by omega, e1, e3, div_step]
theorem coarse (M : Mach d l1) {k : Nat} {o o' : Int} : ∀ (m n q : Nat) (K K' : Nat) (xs ys : List Int), R k n d xs ys → n + k + m ≤ 40 → q < 2 ^ 62 → o = ((n + k + m : Nat) : Int) → o' = ((n + m : Nat) : Int) →
    ∃ xs' ys', l1 o (K + m + 1) (xs, (q : Int), ((n + k : Nat) : Int)) = some xs' ∧ l1 o' (K' + m + 1) (ys, (q : Int), (n : Int)) = some ys' ∧ R k (n + m) d xs' ys' := by
  intro m
  induction m with
  | zero =>
    intro n q K K' xs ys h hN hq ho ho'
    exact ⟨xs, ys, M.stop _ _ _ _ _ (by omega), M.stop _ _ _ _ _ (by omega), h⟩
  | succ m ih =>
    intro n q K K' xs ys h hN hq ho ho'
    obtain ⟨xs', ys', e1, h1, e2, _⟩ := M.step k n q xs ys o o' (K + m + 1) (K' + m + 1) h (by omega) hq (by omega) (by omega)
    have hq' : q / 2 ^ d < 2 ^ 62 := Nat.lt_of_le_of_lt (Nat.div_le_self _ _) hq
    obtain ⟨us, vs, f1, f2, h2⟩ := ih (n + 1) (q / 2 ^ d) K K' xs' ys' h1 (by omega) hq' (by omega) (by omega)
    refine ⟨us, vs, ?_, ?_, by rw [show n + (m + 1) = n + 1 + m by omega]; exact h2⟩
    · rw [show K + (m + 1) + 1 = K + m + 1 + 1 by omega, e1, show n + k + 1 = n + 1 + k by omega]; exact f1
    · rw [show K' + (m + 1) + 1 = K' + m + 1 + 1 by omega, e2]; exact f2
theorem R.zeros {k n d : Nat} {xs : List Int} (h : R 0 k d xs xs) : R k 0 d xs (List.replicate d 0) := by
  refine ⟨h.l1, by simp, fun i hi => ?_⟩
  obtain ⟨X, h1, h2, _⟩ := h.el i hi
  refine ⟨X, by rw [Nat.add_zero] at h1; rw [Nat.zero_add]; exact h1, h2, ?_⟩
  rw [Nat.add_zero] at h1
  rw [Nat.div_eq_of_lt h1, List.getD_eq_getElem?_getD, List.getElem?_replicate, if_pos hi]; rfl
theorem both_runs (M : Mach d l1) {order k p F : Nat} (hk : k < order) (ho : order ≤ 40) (hp : p < 2 ^ 62) (hF : order < F) :
    ∃ xs ys, l1 (order : Int) F (List.replicate d 0, (p : Int), 0) = some xs ∧ l1 ((order - k : Nat) : Int) F (List.replicate d 0, ((p / 2 ^ (d * k) : Nat) : Int), 0) = some ys ∧ R k (order - k) d xs ys := by
  have z : R 0 0 d (List.replicate d 0) (List.replicate d 0) := by
    refine ⟨by simp, by simp, fun i hi => ?_⟩
    have e : (List.replicate d (0 : Int)).getD i 0 = 0 := by rw [List.getD_eq_getElem?_getD, List.getElem?_replicate, if_pos hi]; rfl
    rw [e]; exact ⟨0, by decide, rfl, rfl⟩
  obtain ⟨xs, e1, h1⟩ := fine M hp (F - k) z (o := (order : Int)) k (by omega) (by omega)
  have hq : p / 2 ^ (d * k) < 2 ^ 62 := Nat.lt_of_le_of_lt (Nat.div_le_self _ _) hp
  obtain ⟨us, vs, f1, f2, h2⟩ := coarse M (k := k) (o := (order : Int)) (o' := ((order - k : Nat) : Int)) (order - k) 0 (p / 2 ^ (d * k)) (F - k - (order - k) - 1) (F - (order - k) - 1) xs (List.replicate d 0) (R.zeros (n := 0) h1) (by omega) hq (by omega) (by omega)
  rw [show F - k - (order - k) - 1 + (order - k) + 1 = F - k by omega, Nat.zero_add] at f1
  rw [show F - (order - k) - 1 + (order - k) + 1 = F by omega] at f2
  rw [show F - k + k = F by omega] at e1
  rw [Nat.zero_add] at h2
  exact ⟨us, vs, e1.trans f1, f2, h2⟩
end

/-! #### the law -/
theorem law_loop {xs ys : List Int} {k n d : Nat} (h : R k n d xs ys) (hk : k ≤ 62) (b b' : Bool) (hd : d < 100) : ∀ (m i F : Nat), i + m = d → m < F → laws_FnHilbertCoarse_l1 (xs, b) (k : Int) (ys, b') F (i : Int) = some (.inr ()) := by
  intro m
  induction m with
  | zero =>
    intro i F hi hF
    obtain ⟨F, rfl⟩ : ∃ f, F = f + 1 := ⟨F - 1, by omega⟩
    rw [laws_FnHilbertCoarse_l1, laws_FnHilbertCoarse_l1s]
    dsimp only
    rw [decide_eq_false (by rw [h.l1]; omega), br_false]
  | succ m ih =>
    intro i F hi hF
    obtain ⟨F, rfl⟩ : ∃ f, F = f + 1 := ⟨F - 1, by omega⟩
    rw [laws_FnHilbertCoarse_l1, laws_FnHilbertCoarse_l1s]
    dsimp only
    obtain ⟨X, h1, h2, h3⟩ := h.el i (by omega)
    have e1 : idx xs (i : Int) = some (X : Int) := by
      rw [idx_getD (by omega) (by rw [h.l1]; omega), show ((i : Int)).toNat = i by omega, h2]
    have e2 : idx ys (i : Int) = some ((X / 2 ^ k : Nat) : Int) := by
      rw [idx_getD (by omega) (by rw [h.l2]; omega), show ((i : Int)).toNat = i by omega, h3]
    rw [decide_eq_true (by rw [h.l1]; omega), br_true, e1, sbind, shr_is hk, sbind, e2, sbind]
    rw [decide_eq_true rfl, Bool.not_true, br_false, iadd_i64 (by omega) (by omega)]
    exact ih (i + 1) F (by omega) (by omega)
theorem law_end {xs ys : List Int} {k n d F : Nat} (h : R k n d xs ys) (hk : k ≤ 62) (hd : d < 100) (hF : d < F) : laws_FnHilbertCoarse_j5 F (xs, true) (k : Int) (ys, true) (d : Int) (!true) = some true := by
  unfold laws_FnHilbertCoarse_j5 laws_FnHilbertCoarse_j6 laws_FnHilbertCoarse_j7
  dsimp only
  have e1 : decide ((xs.length : Int) = (d : Int)) = true := decide_eq_true (by rw [h.l1])
  have e2 : decide ((ys.length : Int) = (d : Int)) = true := decide_eq_true (by rw [h.l2])
  have hl : laws_FnHilbertCoarse_l1 (xs, true) (k : Int) (ys, true) F 0 = some (.inr ()) := law_loop h hk true true hd d 0 F (by omega) hF
  rw [e1, e2]
  simp only [Bool.not_true, br_false, hl, sbind]
theorem curved_is (F : Nat) (d o : Int) : ∃ b, laws_curved F d o = some b ∧ (b = true → 1 ≤ o ∧ ((d = 2 ∧ o ≤ 31) ∨ (d = 3 ∧ o ≤ 20) ∨ (d = 4 ∧ o ≤ 15))) := by
  unfold laws_curved laws_curved_j1 laws_curved_j2 laws_curved_j3
  by_cases h1 : 2 ≤ d
  · rw [decide_eq_true h1, br_true]
    by_cases h2 : d ≤ 4
    · rw [decide_eq_true h2, br_true]
      by_cases h3 : 1 ≤ o
      · rw [decide_eq_true h3, br_true]
        rcases (show d = 2 ∨ d = 3 ∨ d = 4 by omega) with rfl | rfl | rfl
        · rw [show laws_orders F 2 = some 31 from rfl, sbind]
          exact ⟨_, rfl, fun h => ⟨h3, .inl ⟨rfl, of_decide_eq_true h⟩⟩⟩
        · rw [show laws_orders F 3 = some 20 from rfl, sbind]
          exact ⟨_, rfl, fun h => ⟨h3, .inr (.inl ⟨rfl, of_decide_eq_true h⟩)⟩⟩
        · rw [show laws_orders F 4 = some 15 from rfl, sbind]
          exact ⟨_, rfl, fun h => ⟨h3, .inr (.inr ⟨rfl, of_decide_eq_true h⟩)⟩⟩
      · rw [decide_eq_false h3, br_false]; exact ⟨false, rfl, fun h => by cases h⟩
    · rw [decide_eq_false h2, br_false, br_false]; exact ⟨false, rfl, fun h => by cases h⟩
  · rw [decide_eq_false h1, br_false, br_false, br_false]; exact ⟨false, rfl, fun h => by cases h⟩
theorem main {F : Nat} (hF : 100 < F) (d o k p : Int) (hk0 : -9223372036854775808 ≤ k) : laws_FnHilbertCoarse F d o k p = some true := by
  obtain ⟨b, hb, hb2⟩ := curved_is F d o
  unfold laws_FnHilbertCoarse
  rw [hb, sbind]
  cases b with
  | false => rfl
  | true =>
    obtain ⟨h1, hd⟩ := hb2 rfl
    rw [Bool.not_true, br_false]
    unfold laws_FnHilbertCoarse_j1
    by_cases c1 : k < 0
    · rw [decide_eq_true c1]; rfl
    rw [decide_eq_false c1, br_false]
    unfold laws_FnHilbertCoarse_j2
    by_cases c2 : o ≤ k
    · rw [decide_eq_true c2]; rfl
    rw [decide_eq_false c2, br_false]
    unfold laws_FnHilbertCoarse_j3
    by_cases c3 : p < 0
    · rw [decide_eq_true c3]; rfl
    rw [decide_eq_false c3, br_false]
    obtain ⟨O, rfl⟩ : ∃ O : Nat, o = (O : Int) := ⟨o.toNat, by omega⟩
    obtain ⟨k, rfl⟩ : ∃ O : Nat, k = (O : Int) := ⟨k.toNat, by omega⟩
    obtain ⟨p, rfl⟩ : ∃ O : Nat, p = (O : Int) := ⟨p.toNat, by omega⟩
    obtain ⟨D, rfl⟩ : ∃ D : Nat, d = (D : Int) := ⟨d.toNat, by omega⟩
    have hDO : D * O ≤ 62 := by
      rcases hd with ⟨e, h⟩ | ⟨e, h⟩ | ⟨e, h⟩
      · obtain rfl : D = 2 := by omega
        omega
      · obtain rfl : D = 3 := by omega
        omega
      · obtain rfl : D = 4 := by omega
        omega
    have hDk : D * k ≤ 62 := by
      have := Nat.mul_le_mul_left D (show k ≤ O by omega)
      omega
    have em : imul .i64 (D : Int) (O : Int) = ((D * O : Nat) : Int) := by
      rw [imul_i64] <;> push_cast <;> omega
    have em2 : imul .i64 (D : Int) (k : Int) = ((D * k : Nat) : Int) := by
      rw [imul_i64] <;> push_cast <;> omega
    have hsh : ishl .i64 1 ((D * O : Nat) : Int) = some ((2 ^ (D * O) : Nat) : Int) := by
      have := shl_is (b := 1) (N := D * O) (by decide) hDO
      rw [Nat.one_mul] at this; exact this
    rw [em, hsh, sbind]
    unfold laws_FnHilbertCoarse_j4
    by_cases c4 : ((2 ^ (D * O) : Nat) : Int) ≤ (p : Int)
    · rw [decide_eq_true c4]; rfl
    rw [decide_eq_false c4, br_false]
    have hp : p < 2 ^ 62 := by
      have := pow_62 hDO
      have h62 : (2 : Nat) ^ 62 = 4611686018427387904 := by decide
      omega
    rw [em2, shr_is hDk]
    have es : isub .i64 (O : Int) (k : Int) = ((O - k : Nat) : Int) := by
      rw [isub_i64 (by omega) (by omega)]; omega
    rw [es]
    have fin : ∀ (dd : Nat) (l1 : Int → Nat → List Int × Int × Int → Option (List Int)), dd < 100 → O ≤ 40 → Mach dd l1 → ∃ xs ys, l1 (O : Int) F (List.replicate dd 0, (p : Int), 0) = some xs ∧ l1 ((O - k : Nat) : Int) F (List.replicate dd 0, ((p / 2 ^ (dd * k) : Nat) : Int), 0) = some ys ∧ laws_FnHilbertCoarse_j5 F (xs, true) (k : Int) (ys, true) (dd : Int) (!true) = some true := by
      intro dd l1 hdd hO M
      obtain ⟨xs, ys, e1, e2, h⟩ := both_runs M (order := O) (k := k) (p := p) (F := F) (by omega) hO hp (by omega)
      exact ⟨xs, ys, e1, e2, law_end h (by omega) hdd (by omega)⟩
    rcases hd with ⟨e, h⟩ | ⟨e, h⟩ | ⟨e, h⟩
    · obtain rfl : D = 2 := by omega
      obtain ⟨xs, ys, e1, e2, e3⟩ := fin 2 _ (by decide) (by omega) mach2
      have g1 : ∀ (O q : Nat), 1 ≤ O → O ≤ 31 → impl_HCoord F ((2 : Nat) : Int) (O : Int) (q : Int) = (curve_Hilbert2D_Coord_l1 (O : Int) F (List.replicate 2 0, (q : Int), 0)) >>= fun r => some (r, true) := by
        intro O q a b
        unfold impl_HCoord curve_NewHilbert2D curve_Hilbert2D_Coord
        rw [show decide (((2 : Nat) : Int) = 2) = true from rfl, br_true, decide_eq_false (by omega), br_false, imul_i64 (by omega) (by omega), decide_eq_false (by omega), br_false, sbind, show mk 8 (0 : Int) 2 2 = some (List.replicate 2 (0 : Int)) from by decide, sbind]
        cases curve_Hilbert2D_Coord_l1 (O : Int) F (List.replicate 2 0, (q : Int), 0) <;> rfl
      rw [g1 O p (by omega) (by omega), e1, sbind, sbind, sbind, g1 (O - k) _ (by omega) (by omega), e2, sbind, sbind]
      dsimp only
      rw [Bool.not_true, br_false]
      exact e3
    · obtain rfl : D = 3 := by omega
      obtain ⟨xs, ys, e1, e2, e3⟩ := fin 3 _ (by decide) (by omega) mach3
      have g1 : ∀ (O q : Nat), 1 ≤ O → O ≤ 20 → impl_HCoord F ((3 : Nat) : Int) (O : Int) (q : Int) = (curve_Hilbert3D_Coord_l1 (O : Int) F (List.replicate 3 0, (q : Int), 0)) >>= fun r => some (r, true) := by
        intro O q a b
        unfold impl_HCoord curve_NewHilbert3D curve_Hilbert3D_Coord
        rw [show decide (((3 : Nat) : Int) = 2) = false from rfl, br_false, show decide (((3 : Nat) : Int) = 3) = true from rfl, br_true, decide_eq_false (by omega), br_false, imul_i64 (by omega) (by omega), decide_eq_false (by omega), br_false, sbind, show mk 8 (0 : Int) 3 3 = some (List.replicate 3 (0 : Int)) from by decide, sbind]
        cases curve_Hilbert3D_Coord_l1 (O : Int) F (List.replicate 3 0, (q : Int), 0) <;> rfl
      rw [g1 O p (by omega) (by omega), e1, sbind, sbind, sbind, g1 (O - k) _ (by omega) (by omega), e2, sbind, sbind]
      dsimp only
      rw [Bool.not_true, br_false]
      exact e3
    · obtain rfl : D = 4 := by omega
      obtain ⟨xs, ys, e1, e2, e3⟩ := fin 4 _ (by decide) (by omega) mach4
      have g1 : ∀ (O q : Nat), 1 ≤ O → O ≤ 15 → impl_HCoord F ((4 : Nat) : Int) (O : Int) (q : Int) = (curve_Hilbert4D_Coord_l1 (O : Int) F (List.replicate 4 0, (q : Int), 0)) >>= fun r => some (r, true) := by
        intro O q a b
        unfold impl_HCoord curve_NewHilbert4D curve_Hilbert4D_Coord
        rw [show decide (((4 : Nat) : Int) = 2) = false from rfl, br_false, show decide (((4 : Nat) : Int) = 3) = false from rfl, br_false, show decide (((4 : Nat) : Int) = 4) = true from rfl, br_true, decide_eq_false (by omega), br_false, imul_i64 (by omega) (by omega), decide_eq_false (by omega), br_false, sbind, show mk 8 (0 : Int) 4 4 = some (List.replicate 4 (0 : Int)) from by decide, sbind]
        cases curve_Hilbert4D_Coord_l1 (O : Int) F (List.replicate 4 0, (q : Int), 0) <;> rfl
      rw [g1 O p (by omega) (by omega), e1, sbind, sbind, sbind, g1 (O - k) _ (by omega) (by omega), e2, sbind, sbind]
      dsimp only
      rw [Bool.not_true, br_false]
      exact e3
theorem fact_FnHilbertCoarse (d o k p : Int) (g0 : IntKind.min .i64 ≤ d ∧ d ≤ IntKind.max .i64) (g1 : IntKind.min .i64 ≤ o ∧ o ≤ IntKind.max .i64) (g2 : IntKind.min .i64 ≤ k ∧ k ≤ IntKind.max .i64) (g3 : IntKind.min .i64 ≤ p ∧ p ≤ IntKind.max .i64) :
    laws_FnHilbertCoarse 200 d o k p = some true := main (by decide) d o k p g2.1
end Go.Proofs.YtnhbmhdjkibjaaaDoor
