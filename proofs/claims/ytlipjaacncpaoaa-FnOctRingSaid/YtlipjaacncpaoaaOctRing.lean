/-
  The eight extreme places without repeats: the plain statement. Ours.
-/
import Derived.Test.YtlipjaacncpaoaaOctPts
namespace Go.Proofs.Ytlipjaacncpaoaa
open Go.Sx
set_option linter.unusedVariables false
set_option linter.unusedSimpArgs false
set_option linter.unusedSectionVars false
set_option maxRecDepth 100000

variable {a : List Nat} {w T : Nat} {X Y : Nat → Int}
/-- the numbers of place i -/
def R (a : List Nat) (w i : Nat) : List Nat := (a.take (i * w + w)).drop (i * w)
theorem R_get (hr : Row a w T X Y) {i j : Nat} (hi : i < T) (hj : j < w) : (R a w i)[j]? = a[i * w + j]? := by
  unfold R
  rw [List.getElem?_drop, List.getElem?_take, if_pos (by omega)]
theorem R_len (hr : Row a w T X Y) {i : Nat} (hi : i < T) : (R a w i).length = w := by
  have h2 := hr.w2
  have := hr.at hi (show w - 1 < w by omega)
  unfold R
  rw [List.length_drop, List.length_take]; omega
theorem R_xy (hr : Row a w T X Y) {i : Nat} (hi : i < T) : ∃ u v, idx (R a w i) 0 = some u ∧ D u (X i) 1074 ∧ idx (R a w i) 1 = some v ∧ D v (Y i) 1074 := by
  obtain ⟨u, u1, u2⟩ := hr.x i hi
  obtain ⟨v, v1, v2⟩ := hr.y i hi
  have h2 := hr.w2
  refine ⟨u, v, ?_, u2, ?_, v2⟩
  · rw [show (0 : Int) = ((0 : Nat) : Int) from rfl, idx_nat, R_get hr hi (by omega)]; exact u1
  · rw [show (1 : Int) = ((1 : Nat) : Int) from rfl, idx_nat, R_get hr hi (by omega)]; exact v1

theorem turn_at (i m : Nat) (b : Nat → Nat) (q : Nat) : turnb X Y i m b q = if q = m then (if key X Y m (b m) < key X Y m i then i else b m) else b q := by
  unfold turnb upd
  by_cases h : key X Y m (b m) < key X Y m i
  · rw [if_pos h]; by_cases e : q = m
    · subst e; simp [h]
    · simp [e]
  · rw [if_neg h]; by_cases e : q = m
    · subst e; simp [h]
    · simp [e]
theorem turn_lt {i : Nat} (hi : i < T) (m : Nat) (hm : m < 8) {b : Nat → Nat} (hb : ∀ m, m < 8 → b m < T) : ∀ q, q < 8 → turnb X Y i m b q < T := fun q hq => by
  rw [turn_at]
  split
  · split
    · exact hi
    · exact hb m hm
  · exact hb q hq
theorem inv_congr {b b' : Nat → Nat} {p : List Nat} (h : Inv a w b p) (e : ∀ m, m < 8 → b m = b' m) : Inv a w b' p := ⟨h.1, fun m hm j hj => by rw [h.2 m hm j hj, e m hm]⟩
def bests (X Y : Nat → Int) (i : Nat) : Nat → Nat := fun m => best (key X Y m) i
theorem all_turns (i : Nat) (b : Nat → Nat) : ∀ m, m < 8 → turnb X Y i 7 (turnb X Y i 6 (turnb X Y i 5 (turnb X Y i 4 (turnb X Y i 3 (turnb X Y i 2 (turnb X Y i 1 (turnb X Y i 0 b))))))) m = if key X Y m (b m) < key X Y m i then i else b m := by
  intro m hm
  have hc : m = 0 ∨ m = 1 ∨ m = 2 ∨ m = 3 ∨ m = 4 ∨ m = 5 ∨ m = 6 ∨ m = 7 := by omega
  rcases hc with rfl | rfl | rfl | rfl | rfl | rfl | rfl | rfl <;> simp [turn_at]
theorem pts_loop (hr : Row a w T X Y) : ∀ (n i k : Nat) (p : List Nat), T - i = n → n + 10 < k → 1 ≤ i → i ≤ T → Inv a w (bests X Y (i - 1)) p →
    ∃ p', xy_convexHullCalculator_computeOctPts_l20 a (w : Int) k (p, ((i * w : Nat) : Int)) = some p' ∧ Inv a w (bests X Y (T - 1)) p' := by
  intro n
  induction n with
  | zero =>
    intro i k p hn hk h1 hi hp
    obtain ⟨k, rfl⟩ : ∃ j, k = j + 1 := ⟨k - 1, by omega⟩
    obtain rfl : i = T := by omega
    refine ⟨p, ?_, hp⟩
    simp only [xy_convexHullCalculator_computeOctPts_l20, xy_convexHullCalculator_computeOctPts_l20s, lt_false (show ¬ i * w < a.length by rw [hr.len]; exact Nat.lt_irrefl _), br_false]
  | succ n ih =>
    intro i k p hn hk h1 hi hp
    obtain ⟨k, rfl⟩ : ∃ j, k = j + 1 := ⟨k - 1, by omega⟩
    have hlt : i < T := by omega
    have hk9 : 9 < k := by omega
    have hb0 : ∀ m, m < 8 → bests X Y (i - 1) m < T := fun m _ => by have := best_le (key X Y m) (i - 1); unfold bests; omega
    have hb1 := turn_lt (X := X) (Y := Y) hlt 0 (by decide) hb0
    have hb2 := turn_lt (X := X) (Y := Y) hlt 1 (by decide) hb1
    have hb3 := turn_lt (X := X) (Y := Y) hlt 2 (by decide) hb2
    have hb4 := turn_lt (X := X) (Y := Y) hlt 3 (by decide) hb3
    have hb5 := turn_lt (X := X) (Y := Y) hlt 4 (by decide) hb4
    have hb6 := turn_lt (X := X) (Y := Y) hlt 5 (by decide) hb5
    have hb7 := turn_lt (X := X) (Y := Y) hlt 6 (by decide) hb6
    show ∃ p', xy_convexHullCalculator_computeOctPts_l20s a (w : Int) k (xy_convexHullCalculator_computeOctPts_l20 a (w : Int) k) p ((i * w : Nat) : Int) = some p' ∧ Inv a w (bests X Y (T - 1)) p'
    refine ph0 (Po := fun o => ∃ p', o = some p' ∧ Inv a w (bests X Y (T - 1)) p') hr hlt hk9 hp hb0 fun p1 h1' => ?_
    refine ph1 (Po := fun o => ∃ p', o = some p' ∧ Inv a w (bests X Y (T - 1)) p') hr hlt hk9 h1' hb1 fun p2 h2 => ?_
    refine ph2 (Po := fun o => ∃ p', o = some p' ∧ Inv a w (bests X Y (T - 1)) p') hr hlt hk9 h2 hb2 fun p3 h3 => ?_
    refine ph3 (Po := fun o => ∃ p', o = some p' ∧ Inv a w (bests X Y (T - 1)) p') hr hlt hk9 h3 hb3 fun p4 h4 => ?_
    refine ph4 (Po := fun o => ∃ p', o = some p' ∧ Inv a w (bests X Y (T - 1)) p') hr hlt hk9 h4 hb4 fun p5 h5 => ?_
    refine ph5 (Po := fun o => ∃ p', o = some p' ∧ Inv a w (bests X Y (T - 1)) p') hr hlt hk9 h5 hb5 fun p6 h6 => ?_
    refine ph6 (Po := fun o => ∃ p', o = some p' ∧ Inv a w (bests X Y (T - 1)) p') hr hlt hk9 h6 hb6 fun p7 h7 => ?_
    refine ph7 (Po := fun o => ∃ p', o = some p' ∧ Inv a w (bests X Y (T - 1)) p') hr hlt hk9 h7 hb7 fun p8 h8 => ?_
    have e : ((i * w + w : Nat) : Int) = (((i + 1) * w : Nat) : Int) := by rw [Nat.add_mul, Nat.one_mul]
    rw [e]
    refine ih (i + 1) k p8 (by omega) (by omega) (by omega) (by omega) (inv_congr h8 fun m hm => ?_)
    rw [all_turns i _ m hm]
    obtain ⟨i0, rfl⟩ : ∃ i0, i = i0 + 1 := ⟨i - 1, by omega⟩
    show _ = best (key X Y m) (i0 + 1 + 1 - 1)
    simp only [Nat.add_sub_cancel, bests, best]
/-- the eight places, all the first one -/
theorem first_loop (hr : Row a w T X Y) : ∀ (n m k : Nat) (p : List Nat), 8 - m = n → n + 10 < k → m ≤ 8 → p.length = 8 * w → (∀ m', m' < m → ∀ j, j < w → p[m' * w + j]? = a[j]?) →
    ∃ p', xy_convexHullCalculator_computeOctPts_l3 (w : Int) a k (p, ((m * w : Nat) : Int)) = some p' ∧ Inv a w (bests X Y 0) p' := by
  intro n
  induction n with
  | zero =>
    intro m k p hn hk hm hp h
    obtain ⟨k, rfl⟩ : ∃ j, k = j + 1 := ⟨k - 1, by omega⟩
    obtain rfl : m = 8 := by omega
    refine ⟨p, ?_, hp, fun m' hm' j hj => by rw [h m' hm' j hj]; show _ = a[0 * w + j]?; rw [Nat.zero_mul, Nat.zero_add]⟩
    simp only [xy_convexHullCalculator_computeOctPts_l3, xy_convexHullCalculator_computeOctPts_l3s, lt_false (show ¬ 8 * w < p.length by omega), br_false]
  | succ n ih =>
    intro m k p hn hk hm hp h
    obtain ⟨k, rfl⟩ : ∃ j, k = j + 1 := ⟨k - 1, by omega⟩
    have h8 := hr.w8
    have h2 := hr.w2
    have hmw : m * w + w ≤ 8 * w := by
      have := Nat.mul_le_mul_right w (show m + 1 ≤ 8 by omega)
      rw [Nat.add_mul, Nat.one_mul] at this; exact this
    have hla : 0 + w ≤ a.length := by have := hr.at (show 0 < T from hr.T0) (show w - 1 < w by omega); omega
    obtain ⟨y, y1, y2, y3, y4⟩ := copyl (F := xy_convexHullCalculator_computeOctPts_l2 (w : Int) a ((m * w : Nat) : Int)) a w 0 (m * w) (8 * w) (fun k x j hj => by
      have q1 : iadd .i64 ((m * w : Nat) : Int) (j : Int) = ((m * w + j : Nat) : Int) := by rw [iadd_i64 (by omega) (by omega)]; omega
      rw [Nat.zero_add]
      simp only [xy_convexHullCalculator_computeOctPts_l2, xy_convexHullCalculator_computeOctPts_l2s, lt_true hj, br_true, q1, iadd_one (show j < 9223372036854775807 by omega)]
      rfl) (fun k x => by simp only [xy_convexHullCalculator_computeOctPts_l2, xy_convexHullCalculator_computeOctPts_l2s, lt_false (Nat.lt_irrefl _), br_false]) hla hmw w 0 k p (by omega) (by omega) (by omega) hp
    have y1' : xy_convexHullCalculator_computeOctPts_l2 (w : Int) a ((m * w : Nat) : Int) k (p, 0) = some y := y1
    have q2 : iadd .i64 ((m * w : Nat) : Int) (w : Int) = (((m + 1) * w : Nat) : Int) := by
      rw [iadd_i64 (by omega) (by omega), Nat.add_mul, Nat.one_mul]; omega
    obtain ⟨p', r1, r2⟩ := ih (m + 1) k y (by omega) (by omega) (by omega) y2 (fun m' hm' j hj => by
      by_cases e : m' = m
      · subst e; rw [y3 j (Nat.zero_le _) hj, Nat.zero_add]
      · have := Nat.mul_le_mul_right w (show m' + 1 ≤ m by omega)
        rw [Nat.add_mul, Nat.one_mul] at this
        rw [y4 _ (by omega)]; exact h m' (by omega) j hj)
    refine ⟨p', ?_, r2⟩
    simp only [xy_convexHullCalculator_computeOctPts_l3, xy_convexHullCalculator_computeOctPts_l3s, lt_true (show m * w < p.length by omega), br_true, y1', Option.bind_eq_bind, Option.bind_some, q2, r1]
theorem octPts_is (hr : Row a w T X Y) (k : Nat) (hk : 200 < k) (a0 : Int) (c : List Nat) : ∃ p, xy_convexHullCalculator_computeOctPts k a0 (w : Int) c a = some (a0, (w : Int), c, p) ∧ Inv a w (bests X Y (T - 1)) p := by
  have h8 := hr.w8
  have h2 := hr.w2
  have h60 := hr.T60
  have hT := hr.T0
  have e8 : imul .i64 8 (w : Int) = ((8 * w : Nat) : Int) := by
    have : (8 : Int) * (w : Int) = ((8 * w : Nat) : Int) := by push_cast; rfl
    rw [imul_i64 (by omega) (by omega), this]
  have hmk : mk 8 0 ((8 * w : Nat) : Int) ((8 * w : Nat) : Int) = some (List.replicate (8 * w) 0) := by
    unfold mk; rw [if_pos (by omega)]; rfl
  obtain ⟨p1, r1, r2⟩ := first_loop hr 8 0 k (List.replicate (8 * w) 0) (by omega) (by omega) (by omega) (by simp) (fun m' hm' => by omega)
  rw [Nat.zero_mul] at r1
  have r1' : xy_convexHullCalculator_computeOctPts_l3 (w : Int) a k (List.replicate (8 * w) 0, 0) = some p1 := r1
  obtain ⟨p2, r3, r4⟩ := pts_loop hr (T - 1) 1 k p1 (by omega) (by omega) (by omega) (by omega) r2
  rw [Nat.one_mul] at r3
  refine ⟨p2, ?_, r4⟩
  unfold xy_convexHullCalculator_computeOctPts
  rw [e8, hmk, sbind, r1', sbind, r3, sbind]

/-! #### without repeats -/
def Bm (X Y : Nat → Int) (T m : Nat) : Nat := bests X Y (T - 1) m
def same (X Y : Nat → Int) (T m : Nat) : Bool := decide (X (Bm X Y T m) = X (Bm X Y T (m + 1))) && decide (Y (Bm X Y T m) = Y (Bm X Y T (m + 1)))
def acc (a : List Nat) (w : Nat) (X Y : Nat → Int) (T : Nat) : Nat → List Nat
  | 0 => R a w (Bm X Y T 0)
  | m + 1 => if same X Y T m = true then acc a w X Y T m else acc a w X Y T m ++ R a w (Bm X Y T (m + 1))
theorem Bm_lt (hr : Row a w T X Y) (m : Nat) : Bm X Y T m < T := by
  have := best_le (key X Y m) (T - 1)
  have := hr.T0
  unfold Bm bests; omega
theorem acc_len (hr : Row a w T X Y) : ∀ m, ∃ c, (acc a w X Y T m).length = c * w ∧ 1 ≤ c ∧ c ≤ m + 1
  | 0 => ⟨1, by unfold acc; rw [R_len hr (Bm_lt hr 0)]; omega, by omega, by omega⟩
  | m + 1 => by
    obtain ⟨c, h1, h2, h3⟩ := acc_len hr m
    unfold acc
    split
    · exact ⟨c, h1, h2, by omega⟩
    · exact ⟨c + 1, by rw [List.length_append, h1, R_len hr (Bm_lt hr _), Nat.add_mul, Nat.one_mul], by omega, by omega⟩
theorem acc_last (hr : Row a w T X Y) : ∀ m, ∃ u v, (acc a w X Y T m)[(acc a w X Y T m).length - w]? = some u ∧ D u (X (Bm X Y T m)) 1074 ∧ (acc a w X Y T m)[(acc a w X Y T m).length - w + 1]? = some v ∧ D v (Y (Bm X Y T m)) 1074
  | 0 => by
    obtain ⟨u, u1, u2⟩ := hr.x _ (Bm_lt hr 0)
    obtain ⟨v, v1, v2⟩ := hr.y _ (Bm_lt hr 0)
    have h2 := hr.w2
    have hl := R_len hr (Bm_lt hr 0)
    refine ⟨u, v, ?_, u2, ?_, v2⟩
    · show (R a w (Bm X Y T 0))[_]? = _
      rw [show (acc a w X Y T 0).length = w from hl, Nat.sub_self, R_get hr (Bm_lt hr 0) (by omega)]; exact u1
    · show (R a w (Bm X Y T 0))[_]? = _
      rw [show (acc a w X Y T 0).length = w from hl, Nat.sub_self, R_get hr (Bm_lt hr 0) (by omega), Nat.zero_add]; exact v1
  | m + 1 => by
    obtain ⟨u, v, a1, a2, a3, a4⟩ := acc_last hr m
    by_cases hs : same X Y T m = true
    · have e : acc a w X Y T (m + 1) = acc a w X Y T m := by
        show (if same X Y T m = true then _ else _) = _
        rw [if_pos hs]
      have hs' := hs
      unfold same at hs'
      rw [Bool.and_eq_true, decide_eq_true_eq, decide_eq_true_eq] at hs'
      rw [e]
      exact ⟨u, v, a1, by rw [← hs'.1]; exact a2, a3, by rw [← hs'.2]; exact a4⟩
    · have e : acc a w X Y T (m + 1) = acc a w X Y T m ++ R a w (Bm X Y T (m + 1)) := by
        show (if same X Y T m = true then _ else _) = _
        rw [if_neg hs]
      obtain ⟨u, u1, u2⟩ := hr.x _ (Bm_lt hr (m + 1))
      obtain ⟨v, v1, v2⟩ := hr.y _ (Bm_lt hr (m + 1))
      have h2 := hr.w2
      have hl := R_len hr (Bm_lt hr (m + 1))
      have el : (acc a w X Y T m ++ R a w (Bm X Y T (m + 1))).length - w = (acc a w X Y T m).length := by rw [List.length_append, hl]; omega
      rw [e, el]
      refine ⟨u, v, ?_, u2, ?_, v2⟩
      · rw [List.getElem?_append_right (Nat.le_refl _), Nat.sub_self, R_get hr (Bm_lt hr _) (by omega)]; exact u1
      · rw [List.getElem?_append_right (by omega), Nat.add_sub_cancel_left, R_get hr (Bm_lt hr _) (by omega)]; exact v1
theorem acc_mem (hr : Row a w T X Y) : ∀ m, ∀ x ∈ acc a w X Y T m, x ∈ a
  | 0 => fun x hx => List.mem_of_mem_take (List.mem_of_mem_drop hx)
  | m + 1 => fun x hx => by
    unfold acc at hx
    split at hx
    · exact acc_mem hr m x hx
    · rcases List.mem_append.1 hx with h | h
      · exact acc_mem hr m x h
      · exact List.mem_of_mem_take (List.mem_of_mem_drop h)
theorem cut_at {xs : List Nat} {i n : Nat} (h : i + n ≤ xs.length) : cut xs (i : Int) ((i + n : Nat) : Int) = some ((xs.take (i + n)).drop i) := by
  unfold cut; rw [if_pos (by omega)]; rfl
theorem ring_loop (hr : Row a w T X Y) : ∀ (n m k : Nat) (x : List Nat), 7 - m = n → n < k → m ≤ 7 → x.length = 8 * w → x.take (acc a w X Y T m).length = acc a w X Y T m → (∀ m', m ≤ m' → m' < 8 → ∀ j, j < w → x[m' * w + j]? = a[Bm X Y T m' * w + j]?) →
    ∃ x', xy_convexHullCalculator_computeOctRing_l1 (w : Int) k (x, (acc a w X Y T m).length, (((m + 1) * w : Nat) : Int)) = some (x', (acc a w X Y T 7).length) ∧ x'.length = 8 * w ∧ x'.take (acc a w X Y T 7).length = acc a w X Y T 7 := by
  intro n
  induction n with
  | zero =>
    intro m k x hn hk hm hx ht h
    obtain ⟨k, rfl⟩ : ∃ j, k = j + 1 := ⟨k - 1, by omega⟩
    obtain rfl : m = 7 := by omega
    refine ⟨x, ?_, hx, ht⟩
    simp only [xy_convexHullCalculator_computeOctRing_l1, xy_convexHullCalculator_computeOctRing_l1s, lt_false (show ¬ (7 + 1) * w < x.length by omega), br_false]
  | succ n ih =>
    intro m k x hn hk hm hx ht h
    obtain ⟨k, rfl⟩ : ∃ j, k = j + 1 := ⟨k - 1, by omega⟩
    have h8 := hr.w8
    have h2 := hr.w2
    have e1 : (m + 1) * w = m * w + w := by rw [Nat.add_mul, Nat.one_mul]
    have e2 : (m + 1 + 1) * w = m * w + w + w := by rw [Nat.add_mul, Nat.one_mul, e1]
    have hmw : m * w + w + w ≤ 8 * w := by rw [← e2]; exact Nat.mul_le_mul_right w (by omega)
    obtain ⟨u, u1, u2⟩ := hr.x _ (Bm_lt hr m)
    obtain ⟨v, v1, v2⟩ := hr.y _ (Bm_lt hr m)
    obtain ⟨u', u1', u2'⟩ := hr.x _ (Bm_lt hr (m + 1))
    obtain ⟨v', v1', v2'⟩ := hr.y _ (Bm_lt hr (m + 1))
    have g1 : idx x ((m * w : Nat) : Int) = some u := by rw [idx_nat, ← Nat.add_zero (m * w), h m (Nat.le_refl _) (by omega) 0 (by omega), Nat.add_zero]; exact u1
    have g2 : idx x ((m * w + 1 : Nat) : Int) = some v := by rw [idx_nat, h m (Nat.le_refl _) (by omega) 1 (by omega)]; exact v1
    have g3 : idx x ((m * w + w : Nat) : Int) = some u' := by
      have := h (m + 1) (by omega) (by omega) 0 (by omega)
      rw [Nat.add_zero, Nat.add_zero, e1] at this
      rw [idx_nat, this]; exact u1'
    have g4 : idx x ((m * w + w + 1 : Nat) : Int) = some v' := by
      have := h (m + 1) (by omega) (by omega) 1 (by omega)
      rw [e1] at this
      rw [idx_nat, this]; exact v1'
    have o1 : isub .i64 ((m * w + w : Nat) : Int) (w : Int) = ((m * w : Nat) : Int) := by rw [isub_i64 (by omega) (by omega)]; omega
    have o2 : iadd .i64 ((m * w + w : Nat) : Int) (w : Int) = ((m * w + w + w : Nat) : Int) := by rw [iadd_i64 (by omega) (by omega)]; omega
    have o3 : iadd .i64 ((m * w : Nat) : Int) 1 = ((m * w + 1 : Nat) : Int) := iadd_one (by omega)
    have o4 : iadd .i64 ((m * w + w : Nat) : Int) 1 = ((m * w + w + 1 : Nat) : Int) := iadd_one (by omega)
    have heq : inner_Equal k x ((m * w : Nat) : Int) x ((m * w + w : Nat) : Int) = some (same X Y T m) := by
      unfold inner_Equal same
      rw [g1, sbind, g3, sbind, D_ne u2 u2']
      by_cases c1 : X (Bm X Y T m) = X (Bm X Y T (m + 1))
      · rw [decide_eq_true c1, Bool.not_true, br_false, o3, g2, sbind, o4, g4, sbind, D_ne v2 v2']
        by_cases c2 : Y (Bm X Y T m) = Y (Bm X Y T (m + 1))
        · rw [decide_eq_true c2]; rfl
        · rw [decide_eq_false c2]; rfl
      · rw [decide_eq_false c1]; rfl
    rw [e1]
    simp only [xy_convexHullCalculator_computeOctRing_l1, xy_convexHullCalculator_computeOctRing_l1s, lt_true (show m * w + w < x.length by omega), br_true, o1, heq, Option.bind_eq_bind, Option.bind_some]
    cases hs : same X Y T m with
    | true =>
      have ea : acc a w X Y T (m + 1) = acc a w X Y T m := by
        show (if same X Y T m = true then _ else _) = _
        rw [if_pos hs]
      have := ih (m + 1) k x (by omega) (by omega) (by omega) hx (by rw [ea]; exact ht) (fun m' h1 h3 j hj => h m' (by omega) h3 j hj)
      rw [ea, e2] at this
      rw [Bool.not_true, br_false]
      unfold xy_convexHullCalculator_computeOctRing_j2
      rw [o2]; exact this
    | false =>
      have ea : acc a w X Y T (m + 1) = acc a w X Y T m ++ R a w (Bm X Y T (m + 1)) := by
        show (if same X Y T m = true then _ else _) = _
        rw [if_neg (by rw [hs]; decide)]
      have hR := R_len hr (Bm_lt hr (m + 1))
      have hcut : cut x ((m * w + w : Nat) : Int) ((m * w + w + w : Nat) : Int) = some (R a w (Bm X Y T (m + 1))) := by
        rw [cut_at (by omega)]
        congr 1
        apply List.ext_getElem?
        intro j
        by_cases hj : j < w
        · rw [R_get hr (Bm_lt hr _) hj, List.getElem?_drop, List.getElem?_take, if_pos (by omega)]
          have := h (m + 1) (by omega) (by omega) j hj
          rw [e1] at this; exact this
        · rw [List.getElem?_eq_none (by rw [List.length_drop, List.length_take]; omega), List.getElem?_eq_none (by rw [hR]; omega)]
      obtain ⟨c, c1, c2, c3⟩ := acc_len hr m
      have hcw : c * w ≤ m * w + w := by rw [← e1]; exact Nat.mul_le_mul_right w c3
      have hov : ovw x (acc a w X Y T m).length (R a w (Bm X Y T (m + 1))) = some (x.take (acc a w X Y T m).length ++ R a w (Bm X Y T (m + 1)) ++ x.drop ((acc a w X Y T m).length + w)) := by
        unfold ovw; rw [hR, if_pos (by omega)]
      rw [Bool.not_false, br_true, o2, hcut]
      simp only [Option.bind_some]
      rw [hov]
      simp only [Option.bind_some]
      unfold xy_convexHullCalculator_computeOctRing_j2
      have hl' : (acc a w X Y T m).length + (R a w (Bm X Y T (m + 1))).length = (acc a w X Y T (m + 1)).length := by rw [ea, List.length_append]
      rw [o2, hl']
      have := ih (m + 1) k (x.take (acc a w X Y T m).length ++ R a w (Bm X Y T (m + 1)) ++ x.drop ((acc a w X Y T m).length + w)) (by omega) (by omega) (by omega) (by
          rw [List.length_append, List.length_append, List.length_take, List.length_drop, hR]; omega) (by
          rw [ht, ea, List.take_left]) (fun m' h1 h3 j hj => by
          have hmm : (m + 1) * w ≤ m' * w := Nat.mul_le_mul_right w h1
          rw [e1] at hmm
          rw [ht]
          by_cases hlt : m' * w + j < (acc a w X Y T m ++ R a w (Bm X Y T (m + 1))).length
          · rw [List.getElem?_append_left hlt]
            rw [List.length_append, hR] at hlt
            have hcc : c = m + 1 := by
              rcases Nat.lt_or_ge c (m + 1) with hh | hh
              · have := Nat.mul_le_mul_right w (show c + 1 ≤ m + 1 by omega)
                rw [Nat.add_mul, Nat.one_mul, e1] at this; omega
              · omega
            have hm' : m' = m + 1 := by
              rcases Nat.lt_or_ge m' (m + 2) with hh | hh
              · omega
              · have := Nat.mul_le_mul_right w hh
                rw [e2] at this
                rw [hcc, e1] at c1; omega
            subst hm'
            rw [hcc, e1] at c1
            rw [List.getElem?_append_right (by omega), c1, e1, show m * w + w + j - (m * w + w) = j from by omega, R_get hr (Bm_lt hr _) hj]
          · rw [List.getElem?_append_right (by omega)]
            rw [List.length_append, hR] at hlt ⊢
            rw [List.getElem?_drop, show (acc a w X Y T m).length + w + (m' * w + j - ((acc a w X Y T m).length + w)) = m' * w + j from by omega]
            exact h m' (by omega) h3 j hj)
      rw [e2] at this
      exact this

/-! #### the law's own reckoning -/
theorem rows_loop (hr : Row a w T X Y) : ∀ (n i k : Nat), T - i = n → n < k → i ≤ T → laws_rowsOf_l1 (w : Int) a k ((List.range i).map (R a w), ((i * w : Nat) : Int)) = some ((List.range T).map (R a w)) := by
  have hs := hr.small
  have h2 := hr.w2
  have h60 := hr.T60
  intro n
  induction n with
  | zero =>
    intro i k hn hk hi
    obtain ⟨k, rfl⟩ : ∃ j, k = j + 1 := ⟨k - 1, by omega⟩
    obtain rfl : i = T := by omega
    have o : iadd .i64 ((i * w : Nat) : Int) (w : Int) = ((i * w + w : Nat) : Int) := by rw [← hr.len, iadd_i64 (by have := hr.w8; omega) (by have := hr.w8; omega)]; omega
    simp only [laws_rowsOf_l1, laws_rowsOf_l1s, o, decide_eq_false (show ¬ ((i * w + w : Nat) : Int) ≤ (a.length : Int) by rw [hr.len]; omega), br_false]
  | succ n ih =>
    intro i k hn hk hi
    obtain ⟨k, rfl⟩ : ∃ j, k = j + 1 := ⟨k - 1, by omega⟩
    have hlt : i < T := by omega
    have hle : i * w + w ≤ a.length := by have := hr.at hlt (show w - 1 < w by omega); omega
    have o : iadd .i64 ((i * w : Nat) : Int) (w : Int) = ((i * w + w : Nat) : Int) := by rw [iadd_i64 (by omega) (by omega)]; omega
    have ha : apd 24 ((List.range i).map (R a w)) [R a w i] = some ((List.range (i + 1)).map (R a w)) := by
      rw [apd_some (by simp; omega) (by simp; omega), List.range_succ, List.map_append]; rfl
    have ih' := ih (i + 1) k (by omega) (by omega) (by omega)
    rw [Nat.add_mul, Nat.one_mul] at ih'
    have hc : cut a ((i * w : Nat) : Int) ((i * w + w : Nat) : Int) = some (R a w i) := cut_at hle
    simp only [laws_rowsOf_l1, laws_rowsOf_l1s, o, decide_eq_true (show ((i * w + w : Nat) : Int) ≤ (a.length : Int) by omega), br_true, hc, Option.bind_eq_bind, Option.bind_some, ha, ih']
theorem fmul_D {x y : Nat} {a b : Int} (hx : D x a 1074) (hy : D y b 1074) (h : (a * b).natAbs ≤ 2 ^ 53) : ∃ z, fmul x y = some z ∧ D z (a * b) 1074 := D_mul hx hy rfl rfl (by decide) h (by decide)
theorem row_at (hr : Row a w T X Y) {i : Nat} (hi : i < T) : idx ((List.range T).map (R a w)) (i : Int) = some (R a w i) := by
  rw [idx_nat, List.getElem?_map, List.getElem?_range hi]; rfl
theorem dot_D (hr : Row a w T X Y) {i : Nat} (hi : i < T) {u v : Nat} {p q : Int} (du : D u p 1074) (dv : D v q 1074) (hp : p.natAbs ≤ 1) (hq : q.natAbs ≤ 1) :
    ∃ x y m1 m2 z, idx (R a w i) 0 = some x ∧ fmul x u = some m1 ∧ idx (R a w i) 1 = some y ∧ fmul y v = some m2 ∧ fadd m1 m2 = some z ∧ D z (p * X i + q * Y i) 1074 := by
  obtain ⟨x, y, x1, x2, y1, y2⟩ := R_xy hr hi
  have b1 := hr.bx i hi
  have b2 := hr.by_ i hi
  have k1 : (X i * p).natAbs ≤ 16777216 * 1 := by rw [Int.natAbs_mul]; exact Nat.mul_le_mul b1 hp
  have k2 : (Y i * q).natAbs ≤ 16777216 * 1 := by rw [Int.natAbs_mul]; exact Nat.mul_le_mul b2 hq
  obtain ⟨m1, e1, d1⟩ := fmul_D x2 du (by omega)
  obtain ⟨m2, e2, d2⟩ := fmul_D y2 dv (by omega)
  obtain ⟨z, e3, d3⟩ := fadd_D d1 d2 (by omega)
  rw [Int.mul_comm (X i), Int.mul_comm (Y i)] at d3
  exact ⟨x, y, m1, m2, z, x1, e1, y1, e2, e3, d3⟩
theorem oct_inner (hr : Row a w T X Y) {u v m : Nat} {p q : Int} (du : D u p 1074) (dv : D v q 1074) (hp : p.natAbs ≤ 1) (hq : q.natAbs ≤ 1) (hk : ∀ i, key X Y m i = p * X i + q * Y i) : ∀ (n i k : Nat), T - i = n → n < k → i ≤ T →
    laws_octOf_l2 ((List.range T).map (R a w)) (u, v) k (R a w (best (key X Y m) (i - 1)), (i : Int)) = some (R a w (best (key X Y m) (T - 1))) := by
  have h60 := hr.T60
  have hT := hr.T0
  intro n
  induction n with
  | zero =>
    intro i k hn hk hi
    obtain ⟨k, rfl⟩ : ∃ j, k = j + 1 := ⟨k - 1, by omega⟩
    obtain rfl : i = T := by omega
    simp only [laws_octOf_l2, laws_octOf_l2s, List.length_map, List.length_range, lt_false (Nat.lt_irrefl _), br_false]
  | succ n ih =>
    intro i k hn hkk hi
    obtain ⟨k, rfl⟩ : ∃ j, k = j + 1 := ⟨k - 1, by omega⟩
    have hlt : i < T := by omega
    have hb : best (key X Y m) (i - 1) < T := by have := best_le (key X Y m) (i - 1); omega
    obtain ⟨x, y, m1, m2, z, e1, e2, e3, e4, e5, d1⟩ := dot_D hr hlt du dv hp hq
    obtain ⟨x', y', m1', m2', z', f1, f2, f3, f4, f5, d2⟩ := dot_D hr hb du dv hp hq
    rw [← hk] at d1 d2
    have ih' := ih (i + 1) k (by omega) (by omega) (by omega)
    have hbest : best (key X Y m) (i + 1 - 1) = if key X Y m (best (key X Y m) (i - 1)) < key X Y m i then i else best (key X Y m) (i - 1) := by
      cases i with
      | zero => simp [best]
      | succ i => simp only [Nat.add_sub_cancel, best]
    simp only [laws_octOf_l2, laws_octOf_l2s, List.length_map, List.length_range, lt_true hlt, br_true, row_at hr hlt, Option.bind_eq_bind, Option.bind_some, e1, e2, e3, e4, e5, f1, f2, f3, f4, f5]
    rw [D_gt d1 d2]
    rw [hbest] at ih'
    unfold laws_octOf_j4
    rw [iadd_one (by omega)]
    by_cases hc : key X Y m (best (key X Y m) (i - 1)) < key X Y m i
    · rw [if_pos hc] at ih'
      rw [decide_eq_true hc, br_true]; exact ih'
    · rw [if_neg hc] at ih'
      rw [decide_eq_false hc, br_false]; exact ih'
def ways : List (Nat × Nat) := [(13830554455654793216, 0), (13830554455654793216, 4607182418800017408), (0, 4607182418800017408), (4607182418800017408, 4607182418800017408), (4607182418800017408, 0), (4607182418800017408, 13830554455654793216), (0, 13830554455654793216), (13830554455654793216, 13830554455654793216)]
theorem D_m1 : D 13830554455654793216 (-1) 1074 := by
  have := D_fneg (x := 4607182418800017408) (by decide) D_one
  have e : fneg 4607182418800017408 = 13830554455654793216 := by decide +kernel
  rw [e] at this; exact this
theorem way_at (m : Nat) (hm : m < 8) : ∃ u v, idx ways (m : Int) = some (u, v) ∧ D u (dirs.getD m (0, 0)).1 1074 ∧ D v (dirs.getD m (0, 0)).2 1074 ∧ (dirs.getD m (0, 0)).1.natAbs ≤ 1 ∧ (dirs.getD m (0, 0)).2.natAbs ≤ 1 := by
  have hc : m = 0 ∨ m = 1 ∨ m = 2 ∨ m = 3 ∨ m = 4 ∨ m = 5 ∨ m = 6 ∨ m = 7 := by omega
  have h0 := D_zero 1074
  rcases hc with rfl | rfl | rfl | rfl | rfl | rfl | rfl | rfl
  · exact ⟨_, _, rfl, D_m1, h0, by decide, by decide⟩
  · exact ⟨_, _, rfl, D_m1, D_one, by decide, by decide⟩
  · exact ⟨_, _, rfl, h0, D_one, by decide, by decide⟩
  · exact ⟨_, _, rfl, D_one, D_one, by decide, by decide⟩
  · exact ⟨_, _, rfl, D_one, h0, by decide, by decide⟩
  · exact ⟨_, _, rfl, D_one, D_m1, by decide, by decide⟩
  · exact ⟨_, _, rfl, h0, D_m1, by decide, by decide⟩
  · exact ⟨_, _, rfl, D_m1, D_m1, by decide, by decide⟩
theorem oct_outer (hr : Row a w T X Y) : ∀ (n m k : Nat), 8 - m = n → n + 61 < k → m ≤ 8 → laws_octOf_l3 ((List.range T).map (R a w)) k ((List.range m).map (fun m => R a w (Bm X Y T m)), (m : Int)) = some ((List.range 8).map (fun m => R a w (Bm X Y T m))) := by
  have h60 := hr.T60
  have hT := hr.T0
  intro n
  induction n with
  | zero =>
    intro m k hn hk hm
    obtain ⟨k, rfl⟩ : ∃ j, k = j + 1 := ⟨k - 1, by omega⟩
    obtain rfl : m = 8 := by omega
    rfl
  | succ n ih =>
    intro m k hn hk hm
    obtain ⟨k, rfl⟩ : ∃ j, k = j + 1 := ⟨k - 1, by omega⟩
    have hlt : m < 8 := by omega
    obtain ⟨u, v, w1, w2, w3, w4, w5⟩ := way_at m hlt
    have hin := oct_inner hr (m := m) w2 w3 w4 w5 (fun _ => rfl) T 0 k (by omega) (by omega) (by omega)
    have hin' : laws_octOf_l2 ((List.range T).map (R a w)) (u, v) k (R a w 0, 0) = some (R a w (Bm X Y T m)) := hin
    have ha : apd 24 ((List.range m).map (fun m => R a w (Bm X Y T m))) [R a w (Bm X Y T m)] = some ((List.range (m + 1)).map (fun m => R a w (Bm X Y T m))) := by
      rw [apd_some (by simp; omega) (by simp; omega), List.range_succ, List.map_append]; rfl
    have h0 : idx ((List.range T).map (R a w)) 0 = some (R a w 0) := row_at hr (show 0 < T by omega)
    have ih' := ih (m + 1) k (by omega) (by omega) (by omega)
    show laws_octOf_l3s ((List.range T).map (R a w)) k (laws_octOf_l3 ((List.range T).map (R a w)) k) ((List.range m).map (fun m => R a w (Bm X Y T m))) (m : Int) = _
    unfold laws_octOf_l3s
    have hd : decide ((m : Int) < ((ways.length : Nat) : Int)) = true := lt_true (show m < ways.length from hlt)
    show br (decide ((m : Int) < ((ways.length : Nat) : Int))) ((idx ways (m : Int)) >>= fun r21 => (idx ((List.range T).map (R a w)) 0) >>= fun r24 => (laws_octOf_l2 ((List.range T).map (R a w)) r21 k (r24, 0)) >>= fun v9 => (apd 24 ((List.range m).map (fun m => R a w (Bm X Y T m))) [v9]) >>= fun r64 => laws_octOf_l3 ((List.range T).map (R a w)) k (r64, iadd .i64 (m : Int) 1)) _ = _
    rw [hd, br_true, w1, sbind, h0, sbind, hin', sbind, ha, sbind, iadd_one (by omega)]
    exact ih'
theorem want_loop (hr : Row a w T X Y) : ∀ (n m k : Nat), 7 - m = n → n + 1 < k → m ≤ 7 → laws_FnOctRing_l1 ((List.range 8).map (fun m => R a w (Bm X Y T m))) (w : Int) k (acc a w X Y T m, ((m + 1 : Nat) : Int)) = some (acc a w X Y T 7) := by
  have h2 := hr.w2
  have h8 := hr.w8
  intro n
  induction n with
  | zero =>
    intro m k hn hk hm
    obtain ⟨k, rfl⟩ : ∃ j, k = j + 1 := ⟨k - 1, by omega⟩
    obtain rfl : m = 7 := by omega
    rfl
  | succ n ih =>
    intro m k hn hk hm
    obtain ⟨k, rfl⟩ : ∃ j, k = j + 1 := ⟨k - 1, by omega⟩
    have hlt : m + 1 < 8 := by omega
    have ih' := ih (m + 1) k (by omega) (by omega) (by omega)
    obtain ⟨c, c1, c2, c3⟩ := acc_len hr m
    have hcw : c * w ≤ 8 * 8 := Nat.mul_le_mul (by omega) h8
    have hcw1 : 1 * w ≤ c * w := Nat.mul_le_mul_right w c2
    obtain ⟨u, v, l1, l2, l3, l4⟩ := acc_last hr m
    obtain ⟨u', v', r1, r2, r3, r4⟩ := R_xy hr (Bm_lt hr (m + 1))
    have o1 : isub .i64 ((acc a w X Y T m).length : Int) (w : Int) = (((acc a w X Y T m).length - w : Nat) : Int) := by rw [isub_i64 (by omega) (by omega)]; omega
    have o2 : iadd .i64 (((acc a w X Y T m).length - w : Nat) : Int) 1 = (((acc a w X Y T m).length - w + 1 : Nat) : Int) := iadd_one (by omega)
    have g1 : idx (acc a w X Y T m) (((acc a w X Y T m).length - w : Nat) : Int) = some u := by rw [idx_nat]; exact l1
    have g2 : idx (acc a w X Y T m) (((acc a w X Y T m).length - w + 1 : Nat) : Int) = some v := by rw [idx_nat]; exact l3
    have hi : idx ((List.range 8).map (fun m => R a w (Bm X Y T m))) ((m + 1 : Nat) : Int) = some (R a w (Bm X Y T (m + 1))) := by
      rw [idx_nat, List.getElem?_map, List.getElem?_range hlt]; rfl
    have hl : decide (((m + 1 : Nat) : Int) < ((((List.range 8).map (fun m => R a w (Bm X Y T m))).length : Nat) : Int)) = true := lt_true (by rw [List.length_map, List.length_range]; exact hlt)
    have hpos : decide (0 < ((acc a w X Y T m).length : Int)) = true := decide_eq_true (by omega)
    have hj4 : ∀ b, same X Y T m = b → laws_FnOctRing_j4 k (laws_FnOctRing_l1 ((List.range 8).map (fun m => R a w (Bm X Y T m))) (w : Int) k) ((m + 1 : Nat) : Int) (acc a w X Y T m) (R a w (Bm X Y T (m + 1))) b = some (acc a w X Y T 7) := by
      intro b hb
      unfold laws_FnOctRing_j4 laws_FnOctRing_j5
      rw [iadd_one (by omega)]
      cases b with
      | true =>
        have ea : acc a w X Y T (m + 1) = acc a w X Y T m := by
          show (if same X Y T m = true then _ else _) = _
          rw [if_pos hb]
        rw [br_true, ← ea]; exact ih'
      | false =>
        have ea : acc a w X Y T (m + 1) = acc a w X Y T m ++ R a w (Bm X Y T (m + 1)) := by
          show (if same X Y T m = true then _ else _) = _
          rw [if_neg (by rw [hb]; decide)]
        have hR := R_len hr (Bm_lt hr (m + 1))
        rw [br_false, apd_some (by omega) (by omega), sbind, ← ea]; exact ih'
    show laws_FnOctRing_l1s _ (w : Int) k _ (acc a w X Y T m) ((m + 1 : Nat) : Int) = _
    unfold laws_FnOctRing_l1s
    rw [hl, br_true, hi, sbind, hpos, br_true, o1, g1, sbind, r1, sbind, D_eq l2 r2]
    unfold laws_FnOctRing_j3
    by_cases h1 : X (Bm X Y T m) = X (Bm X Y T (m + 1))
    · rw [decide_eq_true h1, br_true, o1, o2, g2, sbind, r3, sbind, D_eq l4 r4]
      exact hj4 _ (by unfold same; rw [decide_eq_true h1, Bool.true_and])
    · rw [decide_eq_false h1, br_false]
      exact hj4 _ (by unfold same; rw [decide_eq_false h1, Bool.false_and])

/-! #### the law -/
theorem finite_is (k x : Nat) (b : Bool) (h : spec_Finite k x = some b) (hb : b = true) : fne x x = false := by
  unfold spec_Finite at h
  rw [sbind] at h
  cases h
  cases hn : fne x x with
  | false => rfl
  | true =>
    exfalso
    have hx : feq x x = false := by rw [fne_feq] at hn; simpa using hn
    have hnan : isn x = true := by
      rw [isn_datum]
      unfold feq at hx
      cases hr : FloatKind.f64.format.read x with
      | nan s t => exact ⟨s, t, rfl⟩
      | infinity s =>
        rw [show FloatKind.f64.format.order x x = some .eq from by unfold Ieee.Format.order; rw [hr]; cases s <;> rfl] at hx
        cases hx
      | number s m i =>
        have : ∃ o, FloatKind.f64.format.order x x = some o := by
          unfold Ieee.Format.order; rw [hr]; exact ⟨_, rfl⟩
        have hq : ∃ q : Nat, i = (q : Int) - 1074 := by
          have hr' := hr
          rw [fmt_is] at hr'
          unfold Ieee.Format.read at hr'
          simp only [Go.Sx.sign_is, binade_is, inf_is, least_is] at hr'
          split at hr'
          · simp only [Ieee.Datum.number.injEq] at hr'; exact ⟨0, by omega⟩
          · split at hr'
            · simp only [Ieee.Datum.number.injEq] at hr'; exact ⟨x % 2 ^ 63 / 2 ^ 52 - 1, by omega⟩
            · split at hr' <;> cases hr'
        obtain ⟨q, rfl⟩ := hq
        have hD : D x (Ieee.signed s m q) 0 := ⟨s, m, q, hr, by simp⟩
        have := D_eq hD hD
        rw [decide_eq_true rfl] at this
        unfold feq at this
        rw [this] at hx; cases hx
    have : gsub x x = qn := by
      unfold gsub fsub Ieee.Format.sub
      obtain ⟨s, t, e⟩ := isn_datum.1 hnan
      rw [e]; rfl
    rw [this] at hb
    have hq : feq qn 0 = false := by decide +kernel
    rw [hq] at hb; cases hb
theorem allFinite_is (k : Nat) (xs : List Nat) (hl : xs.length < 1000000) (hk : xs.length < k) : ∃ b, spec_AllFinite k xs = some b ∧ (b = true → ∀ x ∈ xs, fne x x = false) := by
  have hf : ∀ k x, ∃ b, spec_Finite k x = some b := fun k x => ⟨_, rfl⟩
  have := loop_any (F := spec_AllFinite_l1 xs) 0 xs.length (fun i => fne (xs.getD i 0) (xs.getD i 0) || !(feq (gsub (xs.getD i 0) (xs.getD i 0)) 0)) (.inl ()) (.inr ()) (fun k i _ hi => by
    have e : xs.getD i 0 = xs[i] := by simp [List.getD, List.getElem?_eq_getElem hi]
    simp only [spec_AllFinite_l1, spec_AllFinite_l1s, lt_true hi, br_true, idx_get hi, Option.bind_eq_bind, Option.bind_some, e, spec_Finite]
    cases h1 : feq (gsub xs[i] xs[i]) 0 with
    | true =>
      have h2 := finite_is k xs[i] true (by unfold spec_Finite; rw [sbind, h1]) rfl
      rw [h2, Bool.not_true, br_false, iadd_one (by omega)]; rfl
    | false => rw [Bool.not_false, br_true, Bool.or_true]; rfl) (fun k => by simp only [spec_AllFinite_l1, spec_AllFinite_l1s, lt_false (Nat.lt_irrefl _), br_false]) xs.length 0 k (by omega) (by omega)
  have this' : spec_AllFinite_l1 xs k 0 = some _ := this
  unfold spec_AllFinite
  rw [this', sbind]
  cases ha : (List.range' 0 xs.length).any (fun i => fne (xs.getD i 0) (xs.getD i 0) || !(feq (gsub (xs.getD i 0) (xs.getD i 0)) 0)) with
  | true => exact ⟨false, rfl, fun h => by cases h⟩
  | false =>
    refine ⟨true, rfl, fun _ x hx => ?_⟩
    obtain ⟨i, hi, rfl⟩ := List.mem_iff_getElem.1 hx
    have := not_any ha hi
    have e : xs.getD i 0 = xs[i] := by simp [List.getD, List.getElem?_eq_getElem hi]
    rw [e] at this
    exact (Bool.or_eq_false_iff.1 this).1
theorem sameNums_self (k : Nat) (xs : List Nat) (hf : ∀ x ∈ xs, fne x x = false) (h : xs.length < k) (h2 : xs.length < 1000000) : laws_sameNums k xs xs = some true := by
  have key := loop_any (F := laws_sameNums_l1 xs xs) 0 xs.length (fun _ => false) (.inl ()) (.inr ()) (fun k i _ hi => by
    simp only [laws_sameNums_l1, laws_sameNums_l1s, lt_true hi, br_true, idx_get hi, Option.bind_eq_bind, Option.bind_some, hf _ (List.getElem_mem hi), br_false, Bool.false_eq_true, if_false]
    rw [iadd_one (by omega)]) (fun k => by simp only [laws_sameNums_l1, laws_sameNums_l1s, lt_false (Nat.lt_irrefl _), br_false]) xs.length 0 k (by omega) (by omega)
  rw [any_false fun _ _ => rfl] at key
  unfold laws_sameNums
  rw [show (!decide ((xs.length : Int) = (xs.length : Int))) = false from by simp, br_false]
  rw [show (0 : Int) = ((0 : Nat) : Int) from rfl, key]
  rfl
theorem floats_is (k : Nat) (xs : List Nat) (h : xs.length ≤ 1000000) : impl_floats k xs = some xs := by
  unfold impl_floats
  rw [apd_some (by simp; omega) (by simp; omega)]; rfl
theorem impl_is (hr : Row a w T X Y) (k : Nat) (hk : 500 < k) (a0 : Int) (h1 : 1 ≤ a0) (hs : stri a0 = (w : Int)) :
    ∃ o, impl_OctRing k a0 a = some o ∧ (((acc a w X Y T 7).length < 3 * w → o.2 = false) ∧ (3 * w ≤ (acc a w X Y T 7).length → o = (acc a w X Y T 7, true))) := by
  have h2 := hr.w2
  have h8 := hr.w8
  have hsm := hr.small
  obtain ⟨p, hp, hinv⟩ := octPts_is hr k (by omega) a0 a
  have hlen := hinv.1
  have hc0 : cut p 0 (w : Int) = some (p.take w) := by
    have := cut_at (xs := p) (i := 0) (n := w) (by omega)
    rw [Nat.zero_add] at this; exact this
  have hacc0 : p.take w = acc a w X Y T 0 := by
    show _ = R a w (Bm X Y T 0)
    apply List.ext_getElem?
    intro j
    by_cases hj : j < w
    · rw [R_get hr (Bm_lt hr 0) hj, List.getElem?_take, if_pos hj]
      have := hinv.2 0 (by decide) j hj
      rw [Nat.zero_mul, Nat.zero_add] at this; exact this
    · rw [List.getElem?_eq_none (by rw [List.length_take]; omega), List.getElem?_eq_none (by rw [R_len hr (Bm_lt hr 0)]; omega)]
  have hal : (acc a w X Y T 0).length = w := R_len hr (Bm_lt hr 0)
  obtain ⟨x', r1, r2, r3⟩ := ring_loop hr 7 0 k p (by omega) (by omega) (by omega) hlen (by rw [hal]; exact hacc0) (fun m' _ h3 j hj => hinv.2 m' h3 j hj)
  rw [show (0 + 1) * w = w from by rw [Nat.zero_add, Nat.one_mul]] at r1
  have e3 : imul .i64 3 (w : Int) = ((3 * w : Nat) : Int) := by
    have : (3 : Int) * (w : Int) = ((3 * w : Nat) : Int) := by push_cast; rfl
    rw [imul_i64 (by omega) (by omega), this]
  have hl7 : (acc a w X Y T 7).length ≤ 8 * w := by
    have := congrArg List.length r3
    rw [List.length_take] at this; omega
  unfold impl_OctRing xy_DoorOctRing xy_doorHull xy_convexHullCalculator_computeOctRing
  rw [floats_is k a (by omega), sbind, lstride_is k a0 h1, hs, sbind, sbind]
  dsimp only
  rw [hp, sbind]
  dsimp only
  rw [hc0, sbind, hacc0, r1, sbind, e3]
  dsimp only
  by_cases hlt : (acc a w X Y T 7).length < 3 * w
  · rw [lt_true hlt, br_true]
    exact ⟨_, rfl, fun _ => rfl, fun h => by omega⟩
  · have hcf : cut x' 0 ((acc a w X Y T 7).length : Int) = some (acc a w X Y T 7) := by
      have := cut_at (xs := x') (i := 0) (n := (acc a w X Y T 7).length) (by omega)
      rw [Nat.zero_add, r3] at this; exact this
    rw [lt_false hlt, br_false, hcf, sbind]
    simp only [Option.bind_eq_bind, Option.bind_some]
    rw [floats_is k _ (by omega)]
    have hne : some1 (acc a w X Y T 7) = some () := by
      cases h : acc a w X Y T 7 with
      | nil => rw [h] at hlt; simp at hlt; omega
      | cons => rfl
    rw [hne]
    exact ⟨_, rfl, fun h => by omega, fun _ => rfl⟩
theorem main (k : Nat) (hk : 3000 < k) (a0 : Int) (a : List Nat) (ha : ∀ x ∈ a, x < 18446744073709551616) : laws_FnOctRing k a0 a = some true := by
  unfold laws_FnOctRing
  by_cases hbig : 2147483647 < a.length
  · rw [show decide (2147483647 < (a.length : Int)) = true from decide_eq_true (by omega), br_true]
  rw [show decide (2147483647 < (a.length : Int)) = false from decide_eq_false (by omega), br_false]
  have hw : D 4715268809856909312 ((16777216 : Nat) : Int) 1074 := by
    have := D_two 24 (by decide)
    exact this
  obtain ⟨l, b, f1, f2, f3, f4⟩ := flatTo_is 4715268809856909312 16777216 60 hw (by decide) (by decide) k a0 a (by omega) ha (by omega)
  have f1' : laws_flatTo k a0 a 4715268809856909312 60 = some (l, b) := f1
  rw [f1', sbind]
  dsimp only
  cases b with
  | false => rfl
  | true =>
    rw [Bool.not_true, br_false]
    obtain ⟨s, T, hs, h1, h2, h8, hlen, hT, hl, hD⟩ := f4 rfl
    have hll : l.length = T := by rw [hl]; exact pl_length a s T 0
    unfold laws_FnOctRing_j1
    by_cases h0 : l.length = 0
    · rw [decide_eq_true (show (l.length : Int) = 0 by omega), br_true]; rfl
    rw [decide_eq_false (show ¬ (l.length : Int) = 0 by omega), br_false]
    have hal : a.length ≤ 480 := by rw [hlen]; have := Nat.mul_le_mul hT h8; omega
    obtain ⟨c, c1, c2⟩ := allFinite_is k a (by omega) (by omega)
    rw [c1, sbind]
    unfold laws_FnOctRing_j2
    cases c with
    | false => rfl
    | true =>
      rw [Bool.not_true, br_false]
      -- the places
      have hpt : ∀ i, i < T → ∃ m n : Int, (∃ v, a[i * s]? = some v ∧ D v m 1074) ∧ (∃ v, a[i * s + 1]? = some v ∧ D v n 1074) ∧ m.natAbs ≤ 16777216 ∧ n.natAbs ≤ 16777216 := by
        intro i hi
        have hi' : i < (pl a s 0 T).length := by rw [pl_length]; exact hi
        have hle : i * s + s ≤ a.length := by
          rw [hlen]
          have := Nat.mul_le_mul_right s (show i + 1 ≤ T by omega)
          rw [Nat.add_mul, Nat.one_mul] at this; exact this
        obtain ⟨m, n, d1, b1, d2, b2⟩ := hD (pl a s 0 T)[i] (by rw [hl]; exact List.getElem_mem hi')
        rw [pl_get a s T 0 i hi', Nat.zero_add] at d1 d2
        dsimp only at d1 d2
        have g1 : i * s < a.length := by omega
        have g2 : i * s + 1 < a.length := by omega
        rw [show a.getD (i * s) 0 = a[i * s] from by simp [List.getD, List.getElem?_eq_getElem g1]] at d1
        rw [show a.getD (i * s + 1) 0 = a[i * s + 1] from by simp [List.getD, List.getElem?_eq_getElem g2]] at d2
        exact ⟨m, n, ⟨_, List.getElem?_eq_getElem g1, d1⟩, ⟨_, List.getElem?_eq_getElem g2, d2⟩, b1, b2⟩
      have hX : ∃ X : Nat → Int, ∃ Y : Nat → Int, ∀ i, i < T → (∃ v, a[i * s]? = some v ∧ D v (X i) 1074) ∧ (∃ v, a[i * s + 1]? = some v ∧ D v (Y i) 1074) ∧ (X i).natAbs ≤ 16777216 ∧ (Y i).natAbs ≤ 16777216 := by
        refine ⟨fun i => if h : i < T then (hpt i h).choose else 0, fun i => if h : i < T then (hpt i h).choose_spec.choose else 0, fun i hi => ?_⟩
        simp only [dif_pos hi]
        exact (hpt i hi).choose_spec.choose_spec
      obtain ⟨X, Y, hXY⟩ := hX
      have hr : Row a s T X Y := ⟨h2, h8, by omega, hT, hlen, fun i hi => (hXY i hi).1, fun i hi => (hXY i hi).2.1, fun i hi => (hXY i hi).2.2.1, fun i hi => (hXY i hi).2.2.2⟩
      have hrows : laws_rowsOf k a0 a = some ((List.range T).map (R a s)) := by
        have := rows_loop hr T 0 k (by omega) (by omega) (by omega)
        rw [Nat.zero_mul] at this
        have this' : laws_rowsOf_l1 (s : Int) a k ([], 0) = some ((List.range T).map (R a s)) := this
        unfold laws_rowsOf
        rw [stride_is, hs, sbind, this', sbind]
      have hoct : laws_octOf k ((List.range T).map (R a s)) = some ((List.range 8).map (fun m => R a s (Bm X Y T m))) := by
        have := oct_outer hr 8 0 k (by omega) (by omega) (by omega)
        have this' : laws_octOf_l3 ((List.range T).map (R a s)) k ([], 0) = some ((List.range 8).map (fun m => R a s (Bm X Y T m))) := this
        unfold laws_octOf
        rw [this', sbind]
      have hwant : laws_FnOctRing_l1 ((List.range 8).map (fun m => R a s (Bm X Y T m))) (s : Int) k ([], 0) = some (acc a s X Y T 7) := by
        obtain ⟨k, rfl⟩ : ∃ j, k = j + 1 := ⟨k - 1, by omega⟩
        have := want_loop hr 7 0 k (by omega) (by omega) (by omega)
        have hR := R_len hr (Bm_lt hr 0)
        show laws_FnOctRing_l1s _ (s : Int) k _ [] 0 = _
        unfold laws_FnOctRing_l1s
        have hl : decide ((0 : Int) < ((((List.range 8).map (fun m => R a s (Bm X Y T m))).length : Nat) : Int)) = true := rfl
        have hi : idx ((List.range 8).map (fun m => R a s (Bm X Y T m))) 0 = some (R a s (Bm X Y T 0)) := rfl
        rw [hl, br_true, hi, sbind, show decide ((0 : Int) < ((([] : List Nat).length : Nat) : Int)) = false from rfl, br_false]
        unfold laws_FnOctRing_j3 laws_FnOctRing_j4 laws_FnOctRing_j5
        rw [br_false, br_false, apd_some (by simp; omega) (by simp; omega), sbind, List.nil_append]
        exact this
      have e3 : imul .i64 3 (s : Int) = ((3 * s : Nat) : Int) := by
        have : (3 : Int) * (s : Int) = ((3 * s : Nat) : Int) := by push_cast; rfl
        rw [imul_i64 (by omega) (by omega), this]
      obtain ⟨o, o1, o2, o3⟩ := impl_is hr k (by omega) a0 h1 hs
      obtain ⟨cc, q1, q2, q3⟩ := acc_len hr 7
      have hq : cc * s ≤ 8 * 8 := Nat.mul_le_mul (by omega) h8
      rw [stride_is, hs, sbind, hrows, sbind, hoct, sbind, hwant, sbind, o1, sbind, e3]
      by_cases hlt : (acc a s X Y T 7).length < 3 * s
      · rw [lt_true hlt, br_true, o2 hlt]; rfl
      · rw [lt_false hlt, br_false, o3 (by omega)]
        dsimp only
        rw [br_true, sameNums_self k _ (fun x hx => c2 rfl x (acc_mem hr 7 x hx)) (by omega) (by omega), sbind]
        rfl
theorem fact_FnOctRing (a0 : Int) (a1 : List Nat) {p : Prop} (g0 : p) (g1 : a1.length ≤ maxLen ∧ ∀ x ∈ a1, x < 18446744073709551616) : laws_FnOctRing 5000 a0 a1 = some true :=
  main 5000 (by decide) a0 a1 g1.2
end Go.Proofs.Ytlipjaacncpaoaa
