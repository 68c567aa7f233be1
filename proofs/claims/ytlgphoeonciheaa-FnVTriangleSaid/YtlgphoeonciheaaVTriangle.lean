/-
  No distance of three points is greater than the other two together, and it is the same both ways: the plain statement. Ours.
-/
import Derived.Test.YtlgphoeonciheaaFun
import Derived.Test.YtlgphoeonciheaaSxY
import Derived.Test.YtlgphoeonciheaaSxL
namespace Go.Proofs.Ytlgphoeonciheaa
open Go.Sx
open Ieee (signed)
set_option linter.unusedVariables false
set_option linter.unusedSimpArgs false
set_option maxRecDepth 100000

/-! #### the grid -/
def offGrid (w x : Nat) : Bool := !(fge x (fneg w) && fle x w && !fne x (gint .zero x))
theorem grid_l2_is (r : List Nat) (w : Nat) (hr : r.length < 9223372036854775807) (k : Nat) (hk : r.length < k) :
    spec_Grid_l2 r w k 0 = some (if (List.range' 0 r.length).any (fun i => offGrid w (r.getD i 0)) = true then .inl () else .inr ()) := by
  refine loop_any (F := spec_Grid_l2 r w) 0 r.length (fun i => offGrid w (r.getD i 0)) (.inl ()) (.inr ()) (fun k i _ hi => ?_) (fun k => by simp only [spec_Grid_l2, spec_Grid_l2s, lt_false (Nat.lt_irrefl _), br_false]) r.length 0 k (by omega) (by omega)
  have e : r.getD i 0 = r[i] := by simp [List.getD, List.getElem?_eq_getElem hi]
  simp only [spec_Grid_l2, spec_Grid_l2s, lt_true hi, br_true, idx_get hi, Option.bind_eq_bind, Option.bind_some, offGrid, e, iadd_one (show i < 9223372036854775807 from by omega)]
  cases h1 : fge r[i] (fneg w) <;> cases h2 : fle r[i] w <;> cases h3 : fne r[i] (gint .zero r[i]) <;> simp [br, spec_Grid_j7, spec_Grid_j8, math_Trunc, h3, iadd_one (show i < 9223372036854775807 from by omega)]
theorem grid_loop (rows : List (List Nat)) (n : Nat) (hn : n < 1000000) (w : Nat) (hl : rows.length < 1000000) : ∀ (d k i : Nat), rows.length - i = d → n + d + 1 < k → i ≤ rows.length →
    ∃ y, spec_Grid_l3 rows (n : Int) w k (i : Int) = some y ∧ (y = .inr () → ∀ j r, i ≤ j → rows[j]? = some r → r.length = n ∧ ∀ m, m < r.length → offGrid w (r.getD m 0) = false) := by
  intro d
  induction d with
  | zero =>
    intro k i hd hk hi
    obtain ⟨k, rfl⟩ : ∃ j, k = j + 1 := ⟨k - 1, by omega⟩
    exact ⟨.inr (), by simp only [spec_Grid_l3, spec_Grid_l3s, lt_false (show ¬ i < rows.length by omega), br_false], fun _ j x hj h => by
      rw [List.getElem?_eq_none (by omega)] at h; cases h⟩
  | succ d ih =>
    intro k i hd hk hi
    obtain ⟨k, rfl⟩ : ∃ j, k = j + 1 := ⟨k - 1, by omega⟩
    have hlt : i < rows.length := by omega
    obtain ⟨y, y1, y2⟩ := ih k (i + 1) (by omega) (by omega) (by omega)
    by_cases hr : (rows[i].length : Int) = (n : Int)
    · have hg := grid_l2_is rows[i] w (by omega) k (by omega)
      cases ha : (List.range' 0 rows[i].length).any (fun m => offGrid w (rows[i].getD m 0)) with
      | true =>
        rw [ha] at hg
        refine ⟨.inl (), ?_, fun h => by cases h⟩
        simp only [spec_Grid_l3, spec_Grid_l3s, lt_true hlt, br_true, br_false, idx_get hlt, Option.bind_eq_bind, Option.bind_some, decide_eq_true hr, Bool.not_true, hg, if_true]
      | false =>
        rw [ha] at hg
        refine ⟨y, ?_, fun h j r hj hjr => ?_⟩
        · simp only [spec_Grid_l3, spec_Grid_l3s, lt_true hlt, br_true, br_false, idx_get hlt, Option.bind_eq_bind, Option.bind_some, decide_eq_true hr, Bool.not_true, hg, Bool.false_eq_true, if_false, iadd_one (show i < 9223372036854775807 by omega), y1]
        · by_cases hji : j = i
          · subst hji
            rw [List.getElem?_eq_getElem hlt] at hjr
            cases hjr
            exact ⟨by omega, fun m hm => not_any ha hm⟩
          · exact y2 h j r (by omega) hjr
    · refine ⟨.inl (), ?_, fun h => by cases h⟩
      simp only [spec_Grid_l3, spec_Grid_l3s, lt_true hlt, br_true, idx_get hlt, Option.bind_eq_bind, Option.bind_some, decide_eq_false hr, Bool.not_false]
theorem grid_rows (k : Nat) (rows : List (List Nat)) (n : Nat) (hn : n < 1000000) (w : Nat) (hl : rows.length < 1000000) (hk : n + rows.length + 1 < k) :
    ∃ b, spec_Grid k rows (n : Int) w = some b ∧ (b = true → ∀ r ∈ rows, r.length = n ∧ ∀ m, m < r.length → offGrid w (r.getD m 0) = false) := by
  obtain ⟨y, y1, y2⟩ := grid_loop rows n hn w hl rows.length k 0 (by omega) (by omega) (by omega)
  have y1' : spec_Grid_l3 rows (n : Int) w k 0 = some y := y1
  unfold spec_Grid
  rw [y1', sbind]
  cases y with
  | inl u => exact ⟨false, rfl, fun h => by cases h⟩
  | inr u =>
    refine ⟨_, rfl, fun _ r hr => ?_⟩
    obtain ⟨j, hj⟩ := List.mem_iff_getElem?.1 hr
    exact y2 rfl j r (by omega) hj
theorem offGrid_num {x : Nat} (hx : x < 2 ^ 64) (h : offGrid 4652218415073722368 x = false) : ∃ n : Int, D x n 1074 ∧ n.natAbs ≤ 1024 := by
  unfold offGrid at h
  simp only [Bool.not_eq_false', Bool.and_eq_true, Bool.not_eq_true'] at h
  have hw := D_two 10 (by omega)
  exact grid_one (w := 4652218415073722368) (b := 1024) hx (by omega) hw h.1.1 h.1.2 h.2

/-! #### the sums -/
def SS (f g : Nat → Int) : Nat → Int
  | 0 => 0
  | j + 1 => SS f g j + (f j - g j) * (f j - g j)
theorem step_bound {a b : Int} (ha : a.natAbs ≤ 1024) (hb : b.natAbs ≤ 1024) : 0 ≤ (a - b) * (a - b) ∧ (a - b) * (a - b) ≤ 4194304 := by
  have h1 : (a - b).natAbs ≤ 2048 := by omega
  have h2 : (a - b) * (a - b) = (((a - b).natAbs * (a - b).natAbs : Nat) : Int) := by rw [Int.natCast_mul]; exact (Int.natAbs_mul_self' _).symm
  have h3 := Nat.mul_le_mul h1 h1
  rw [h2]; omega
theorem SS_bound (f g : Nat → Int) (n : Nat) (hf : ∀ i, i < n → (f i).natAbs ≤ 1024) (hg : ∀ i, i < n → (g i).natAbs ≤ 1024) : ∀ j, j ≤ n → 0 ≤ SS f g j ∧ SS f g j ≤ 4194304 * j
  | 0, _ => by simp [SS]
  | j + 1, h => by
    have ih := SS_bound f g n hf hg j (by omega)
    have := step_bound (hf j (by omega)) (hg j (by omega))
    simp only [SS]; omega
theorem SS_swap (f g : Nat → Int) : ∀ j, SS g f j = SS f g j
  | 0 => rfl
  | j + 1 => by simp only [SS]; rw [SS_swap f g j]; grind

def Is (a : List Nat) (f : Nat → Int) : Prop := ∀ i (h : i < a.length), D a[i] (f i) 1074 ∧ (f i).natAbs ≤ 1024
theorem is_of (a : List Nat) (ha : ∀ x ∈ a, x < 18446744073709551616) (h : ∀ i, i < a.length → offGrid 4652218415073722368 (a.getD i 0) = false) : ∃ f, Is a f := by
  have hex : ∀ i (hi : i < a.length), ∃ n : Int, D a[i] n 1074 ∧ n.natAbs ≤ 1024 := fun i hi => by
    have := h i hi
    rw [show a.getD i 0 = a[i] from by simp [List.getD, List.getElem?_eq_getElem hi]] at this
    exact offGrid_num (by have := ha _ (List.getElem_mem hi); omega) this
  refine ⟨fun i => if hi : i < a.length then Classical.choose (hex i hi) else 0, fun i hi => ?_⟩
  simp only [hi, dif_pos]
  exact Classical.choose_spec (hex i hi)

theorem dist_loop (a b : List Nat) (f g : Nat → Int) (hl : a.length = b.length) (hn : a.length ≤ 6) (ha : Is a f) (hb : Is b g) :
    ∀ (d i k x : Nat), i + d = a.length → d < k → D x (SS f g i) 1074 →
    ∃ u, vptree_Point_Distance_l1 a b k (x, (i : Int)) = some u ∧ D u (SS f g a.length) 1074 := by
  intro d
  induction d with
  | zero =>
    intro i k x hi hk hx
    obtain ⟨k, rfl⟩ : ∃ j, k = j + 1 := ⟨k - 1, by omega⟩
    obtain rfl : i = a.length := by omega
    exact ⟨x, by simp only [vptree_Point_Distance_l1, vptree_Point_Distance_l1s, lt_false (Nat.lt_irrefl _), br_false], hx⟩
  | succ d ih =>
    intro i k x hi hk hx
    obtain ⟨k, rfl⟩ : ∃ j, k = j + 1 := ⟨k - 1, by omega⟩
    have hia : i < a.length := by omega
    have hib : i < b.length := by omega
    obtain ⟨m1, m2⟩ := ha i hia
    obtain ⟨n1, n2⟩ := hb i hib
    have hb1 := SS_bound f g a.length (fun i h => (ha i h).2) (fun i h => (hb i (by omega)).2) i (by omega)
    have hb2 := SS_bound f g a.length (fun i h => (ha i h).2) (fun i h => (hb i (by omega)).2) (i + 1) (by omega)
    have sb := step_bound m2 n2
    have d1 := gsub_D m1 n1 rfl (by omega) (by omega)
    have d2 := gmul_D (u := 1074) d1 d1 rfl (by omega) (by omega) (by omega) (by omega)
    have d3 := gadd_D hx d2 (c := SS f g (i + 1)) rfl (by omega) (by omega)
    obtain ⟨u, r1, r2⟩ := ih (i + 1) k _ (by omega) (by omega) d3
    refine ⟨u, ?_, r2⟩
    simp only [vptree_Point_Distance_l1, vptree_Point_Distance_l1s, lt_true hia, br_true, idx_get hia, idx_get hib, Option.bind_eq_bind, Option.bind_some, iadd_one (show i < 9223372036854775807 from by omega)]
    exact r1
theorem dist_is (k : Nat) (a b : List Nat) (f g : Nat → Int) (hl : a.length = b.length) (hn : a.length ≤ 6) (ha : Is a f) (hb : Is b g) (hk : 10 < k) :
    ∃ u, impl_VDistance k a b = some (gsqrt u, true) ∧ D u (SS f g a.length) 1074 := by
  obtain ⟨u, r1, r2⟩ := dist_loop a b f g hl hn ha hb a.length 0 k 0 (by omega) (by omega) (D_zero 1074)
  have r1' : vptree_Point_Distance_l1 a b k (0, 0) = some u := r1
  have hnum : num u = some u := by unfold num; rw [isn_D r2]; rfl
  refine ⟨u, ?_, r2⟩
  unfold impl_VDistance vptree_Point_Distance math_Sqrt
  rw [r1']
  simp only [sbind, hnum]

/-! #### the triangle -/
def SP (f g h : Nat → Int) : Nat → Int
  | 0 => 0
  | j + 1 => SP f g h j + (f j - g j) * (g j - h j)
theorem SS_sum (f g h : Nat → Int) : ∀ j, SS f h j = SS f g j + SS g h j + 2 * SP f g h j
  | 0 => rfl
  | j + 1 => by simp only [SS, SP]; rw [SS_sum f g h j]; grind
theorem quad (f g h : Nat → Int) (t s : Int) : ∀ j, 0 ≤ t * t * SS f g j - 2 * t * s * SP f g h j + s * s * SS g h j
  | 0 => by simp [SS, SP]
  | j + 1 => by
    have ih := quad f g h t s j
    have sq : 0 ≤ (t * (f j - g j) - s * (g j - h j)) * (t * (f j - g j) - s * (g j - h j)) := by
      rw [← Int.natAbs_mul_self']; exact Int.mul_nonneg (Int.natCast_nonneg _) (Int.natCast_nonneg _)
    simp only [SS, SP]
    have e : t * t * (SS f g j + (f j - g j) * (f j - g j)) - 2 * t * s * (SP f g h j + (f j - g j) * (g j - h j)) + s * s * (SS g h j + (g j - h j) * (g j - h j)) =
      (t * t * SS f g j - 2 * t * s * SP f g h j + s * s * SS g h j) + (t * (f j - g j) - s * (g j - h j)) * (t * (f j - g j) - s * (g j - h j)) := by grind
    rw [e]; exact Int.add_nonneg ih sq
theorem cauchy (A B S : Int) (hA : 0 ≤ A) (hB : 0 ≤ B) (h : ∀ t s : Int, 0 ≤ t * t * A - 2 * t * s * S + s * s * B) : S * S ≤ A * B := by
  by_cases h0 : B = 0
  · subst h0
    have h1 := h 1 (S * (A + 1))
    have e : 1 * 1 * A - 2 * 1 * (S * (A + 1)) * S + S * (A + 1) * (S * (A + 1)) * 0 = A - 2 * ((A + 1) * (S * S)) := by grind
    rw [e] at h1
    have hs : 0 ≤ S * S := by rw [← Int.natAbs_mul_self']; exact Int.mul_nonneg (Int.natCast_nonneg _) (Int.natCast_nonneg _)
    by_cases h2 : S * S = 0
    · rw [h2]; simp
    · exfalso
      have h3 : (A + 1) * 1 ≤ (A + 1) * (S * S) := Int.mul_le_mul_of_nonneg_left (by omega) (by omega)
      omega
  · have h1 := h B S
    have e : B * B * A - 2 * B * S * S + S * S * B = B * (A * B - S * S) := by grind
    rw [e] at h1
    have hp : 0 < B := by omega
    by_cases h2 : S * S ≤ A * B
    · exact h2
    · exfalso
      have := Int.mul_neg_of_pos_of_neg hp (show A * B - S * S < 0 by omega)
      omega

theorem isqrt_ex (n : Nat) : ∃ r, r * r ≤ n ∧ n < (r + 1) * (r + 1) := by
  obtain ⟨h1, h2⟩ := rootFrom_is n (n.log2 / 2 + 1) 0 (by omega) (by
    have h3 : n < 2 ^ (n.log2 + 1) := Nat.lt_log2_self
    have h4 : 2 ^ (n.log2 + 1) ≤ 2 ^ (n.log2 / 2 + 1) * 2 ^ (n.log2 / 2 + 1) := by
      rw [← Nat.pow_add]; exact Nat.pow_le_pow_right (by omega) (by omega)
    rw [Nat.zero_add]; omega)
  exact ⟨_, h1, h2⟩

/-- the roots' whole parts -/
theorem roots_tri (A B C S : Int) (P a b c : Int) (hA : 0 ≤ A) (hB : 0 ≤ B) (hP : 0 < P) (ha0 : 0 ≤ a) (hb0 : 0 ≤ b) (hS : S * S ≤ A * B) (hC : C = A + B + 2 * S)
    (ha : A * P < (a + 1) * (a + 1)) (hb : B * P < (b + 1) * (b + 1)) (hc : c * c ≤ C * P) : c ≤ a + b + 1 := by
  by_cases h : c ≤ a + b + 1
  · exact h
  · exfalso
    have h1 : (a + b + 2) * (a + b + 2) ≤ c * c := Int.mul_le_mul (by omega) (by omega) (by omega) (by omega)
    have e : (a + b + 2) * (a + b + 2) = (a + 1) * (a + 1) + (b + 1) * (b + 1) + 2 * ((a + 1) * (b + 1)) := by grind
    have e2 : C * P = A * P + B * P + 2 * (S * P) := by rw [hC]; grind
    have h2 : (a + 1) * (b + 1) < S * P := by omega
    have hX : 0 ≤ (a + 1) * (b + 1) := Int.mul_nonneg (by omega) (by omega)
    have h3 : ((a + 1) * (b + 1)) * ((a + 1) * (b + 1)) ≤ (S * P) * (S * P) := Int.mul_le_mul (by omega) (by omega) hX (by omega)
    have e3 : ((a + 1) * (b + 1)) * ((a + 1) * (b + 1)) = ((a + 1) * (a + 1)) * ((b + 1) * (b + 1)) := by grind
    have e4 : (S * P) * (S * P) = S * S * (P * P) := by grind
    have h4 : S * S * (P * P) ≤ A * B * (P * P) := Int.mul_le_mul_of_nonneg_right hS (Int.mul_nonneg (by omega) (by omega))
    have e5 : A * B * (P * P) = (A * P) * (B * P) := by grind
    have hAP : 0 ≤ A * P := Int.mul_nonneg hA (by omega)
    have hBP : 0 ≤ B * P := Int.mul_nonneg hB (by omega)
    have hb1 : 0 < (b + 1) * (b + 1) := Int.mul_pos (by omega) (by omega)
    have h5 : (A * P) * (B * P) ≤ (A * P) * ((b + 1) * (b + 1)) := Int.mul_le_mul_of_nonneg_left (by omega) hAP
    have h6 : (A * P) * ((b + 1) * (b + 1)) < ((a + 1) * (a + 1)) * ((b + 1) * (b + 1)) := Int.mul_lt_mul_of_pos_right ha hb1
    omega

theorem D_low0 {x n v : Nat} (h : D x (n : Int) v) : D x ((n * 2 ^ v : Nat) : Int) 0 := by
  obtain ⟨s, m, q, h1, h2⟩ := h
  exact ⟨s, m, q, h1, by rw [h2]; simp⟩
theorem sq_dn (n c t v w : Nat) (h : n * n ≤ c * 2 ^ t) (hw : t + (v + v) = w) : n * 2 ^ v * (n * 2 ^ v) ≤ c * 2 ^ w := by
  subst hw
  rw [Nat.pow_add, Nat.pow_add, ← Nat.mul_assoc c]
  exact Nat.le_trans (Nat.le_of_eq (sq_mul4 n (2 ^ v)).symm) (Nat.mul_le_mul_right _ h)
theorem sq_up (n c t v w : Nat) (h : c * 2 ^ t ≤ n * n) (hw : t + (v + v) = w) : c * 2 ^ w ≤ n * 2 ^ v * (n * 2 ^ v) := by
  subst hw
  rw [Nat.pow_add, Nat.pow_add, ← Nat.mul_assoc c]
  exact Nat.le_trans (Nat.mul_le_mul_right _ h) (Nat.le_of_eq (sq_mul4 n (2 ^ v)))
theorem pow_256 (v w : Nat) (h : w = 8 + v) : 1 * 2 ^ w = 256 * 2 ^ v := by subst h; rw [Nat.one_mul, Nat.pow_add]
theorem step_256 (S n v w : Nat) (h : n * 2 ^ v ≤ S) (hw : w = 8 + v) : (n + 256) * 2 ^ v ≤ S + 1 * 2 ^ w := by
  rw [pow_256 v w hw, Nat.add_mul]; exact Nat.add_le_add_right h _
theorem add_tiny (S v u k : Nat) (h : S ≤ (1 + 1) * 2 ^ v) (hu : u ≤ v) (hk : 2 + v ≤ k) : S + 1 * 2 ^ u < 2 ^ k :=
  add_lt2 S (1 * 2 ^ u) (1 + 1) 2 v k h (Nat.mul_le_mul_left 1 (pow_le2 u v hu)) (by omega) hk
theorem lt_chain (c n S R v : Nat) (h1 : S ≤ c * 2 ^ v) (h2 : n * 2 ^ v ≤ R) (h : c < n) : S < R :=
  Nat.lt_of_le_of_lt h1 (Nat.lt_of_lt_of_le (Nat.mul_lt_mul_of_pos_right h (Nat.two_pow_pos v)) h2)
theorem D_tiny30 : D 4472074429978902528 ((1 : Nat) : Int) 1044 := by
  have := D_fields (E := 993) (F := 0) (by omega) (by omega) (by omega) (n := 1) (v := 1044) (by
    rw [Int.one_mul, show (1044 : Nat) = 52 + (993 - 1) from rfl, Int.pow_add]; rfl)
  exact this

theorem below_tri {x y z A B C a b c : Nat} (hx : D x (A : Int) 1074) (hy : D y (B : Int) 1074) (hz : D z (C : Int) 1074) (hA : A ≤ 2 ^ 26) (hB : B ≤ 2 ^ 26) (hC : C ≤ 2 ^ 26)
    (h1 : a * a ≤ A * 2 ^ 76) (h2 : b * b ≤ B * 2 ^ 76) (h3 : C * 2 ^ 76 ≤ (c + 1) * (c + 1)) (h4 : c ≤ a + b + 1) (ha : a ≤ 2 ^ 51) (hb : b ≤ 2 ^ 51) :
    flt (gsqrt z) (gadd (gadd (gsqrt x) (gsqrt y)) 4472074429978902528) = true := by
  have big : ∀ c : Nat, c ≤ 2 ^ 26 → c < 2 ^ 1000 := fun c h => Nat.lt_of_le_of_lt h (pow_lt2 26 1000 (by omega))
  have hab : a + b + 256 ≤ 2 ^ 53 := by omega
  have hcc : c + 1 < a + b + 256 := by omega
  obtain ⟨NA, a1, a2, a3⟩ := gsqrt_near hx (big _ hA)
  obtain ⟨NB, b1, b2, b3⟩ := gsqrt_near hy (big _ hB)
  obtain ⟨NC, c1, c2, c3⟩ := gsqrt_near hz (big _ hC)
  have ka := a3 a 1036 (by omega) (sq_dn a A 76 1036 2148 h1 (by omega))
  have kb := b3 b 1036 (by omega) (sq_dn b B 76 1036 2148 h2 (by omega))
  have kc := c2 (c + 1) 1036 (by omega) (sq_up (c + 1) C 76 1036 2148 h3 (by omega))
  have ua := a2 1 1087 (by omega) (sq_bound2 A 26 2148 1087 0 hA (by omega))
  have ub := b2 1 1087 (by omega) (sq_bound2 B 26 2148 1087 0 hB (by omega))
  have hs : NA + NB ≤ (1 + 1) * 2 ^ 1087 := add_step NA NB 1 1087 ua ub
  obtain ⟨NS, s1, s2, s3⟩ := gadd_near a1 b1 (add_lt2 NA NB 1 2 1087 2096 ua ub (by omega) (by omega))
  have us := s2 (1 + 1) 1087 (by omega) hs
  have ks := s3 (a + b) 1036 (by omega) (by rw [Nat.add_mul]; exact Nat.add_le_add ka kb)
  have ht := D_low0 D_tiny30
  have hr := add_tiny NS 1087 1044 2096 us (by omega) (by omega)
  obtain ⟨NR, r1, r2, r3⟩ := gadd_near s1 ht hr
  have kr := r3 (a + b + 256) 1036 hab (step_256 NS (a + b) 1036 1044 ks rfl)
  rw [D_lt c1 r1]
  have := lt_chain (c + 1) (a + b + 256) NC NR 1036 kc kr hcc
  exact decide_eq_true (Int.ofNat_lt.2 this)

theorem wide_is (k : Nat) (a0 a1 a2 : List Nat) (hk : 100 < k) : ∃ b, laws_wide k [a0, a2] a1 = some b ∧ (b = true → a1.length ≤ 6 ∧ (∀ r, r = a0 ∨ r = a1 ∨ r = a2 → r.length = a1.length ∧ ∀ m, m < r.length → offGrid 4652218415073722368 (r.getD m 0) = false)) := by
  unfold laws_wide
  rw [show decide ((0 : Int) < (([a0, a2] : List (List Nat)).length : Int)) = true from rfl, br_true, show decide ((([a0, a2] : List (List Nat)).length : Int) ≤ 100) = true from rfl]
  unfold laws_wide_j1
  rw [br_true]
  by_cases h1 : (0 : Int) < (a1.length : Int)
  · rw [decide_eq_true h1]
    unfold laws_wide_j2
    rw [br_true]
    by_cases h2 : (a1.length : Int) ≤ 6
    · rw [decide_eq_true h2]
      unfold laws_wide_j3
      rw [br_true]
      obtain ⟨b, hb, hb'⟩ := grid_rows k [a0, a2] a1.length (by omega) 4652218415073722368 (by simp) (by simp; omega)
      rw [hb, sbind]
      unfold laws_wide_j4 laws_wide_j5
      cases b with
      | false => exact ⟨false, rfl, fun h => by cases h⟩
      | true =>
        rw [br_true]
        obtain ⟨c, hc, hc'⟩ := grid_rows k [a1] a1.length (by omega) 4652218415073722368 (by simp) (by simp; omega)
        rw [hc, sbind]
        refine ⟨c, rfl, fun h => ⟨by omega, fun r hr => ?_⟩⟩
        rcases hr with rfl | rfl | rfl
        · exact hb' rfl _ (by simp)
        · exact hc' h _ (by simp)
        · exact hb' rfl _ (by simp)
    · rw [decide_eq_false h2]; exact ⟨false, rfl, fun h => by cases h⟩
  · rw [decide_eq_false h1]; exact ⟨false, rfl, fun h => by cases h⟩

theorem fact_FnVTriangle (x0 x1 x2 : List Nat) (g0 : x0.length ≤ maxLen ∧ ∀ x ∈ x0, x < 18446744073709551616) (g1 : x1.length ≤ maxLen ∧ ∀ x ∈ x1, x < 18446744073709551616) (g2 : x2.length ≤ maxLen ∧ ∀ x ∈ x2, x < 18446744073709551616) :
    laws_FnVTriangle 1000 x0 x1 x2 = some true := by
  have key : laws_FnVTriangle_j2 1000 x0 x2 x1 false = some true := by
    unfold laws_FnVTriangle_j2
    rw [br_false]
    obtain ⟨b, hb, hb'⟩ := wide_is 1000 x0 x1 x2 (by omega)
    rw [hb, sbind]
    cases b with
    | false => rfl
    | true =>
      simp only [Bool.not_true, br_false]
      obtain ⟨h6, hall⟩ := hb' rfl
      obtain ⟨l0, o0⟩ := hall x0 (.inl rfl)
      obtain ⟨l1, o1⟩ := hall x1 (.inr (.inl rfl))
      obtain ⟨l2, o2⟩ := hall x2 (.inr (.inr rfl))
      obtain ⟨f, hf⟩ := is_of x0 g0.2 o0
      obtain ⟨g, hg⟩ := is_of x1 g1.2 o1
      obtain ⟨h, hh⟩ := is_of x2 g2.2 o2
      obtain ⟨u, u1, u2⟩ := dist_is 1000 x0 x1 f g (by omega) (by omega) hf hg (by omega)
      obtain ⟨v, v1, v2⟩ := dist_is 1000 x1 x2 g h (by omega) (by omega) hg hh (by omega)
      obtain ⟨w, w1, w2⟩ := dist_is 1000 x0 x2 f h (by omega) (by omega) hf hh (by omega)
      obtain ⟨r, r1, r2⟩ := dist_is 1000 x1 x0 g f (by omega) (by omega) hg hf (by omega)
      rw [u1, v1, w1, r1]
      simp only [sbind, br_true, laws_FnVTriangle_j3, laws_FnVTriangle_j4, laws_FnVTriangle_j5, laws_FnVTriangle_j6, laws_FnVTriangle_j7]
      rw [SS_swap f g, show x1.length = x0.length from by omega] at r2
      rw [show x1.length = x0.length from by omega] at v2
      have bA := SS_bound f g x0.length (fun i hi => (hf i hi).2) (fun i hi => (hg i (by omega)).2) x0.length (by omega)
      have bB := SS_bound g h x0.length (fun i hi => (hg i (by omega)).2) (fun i hi => (hh i (by omega)).2) x0.length (by omega)
      have bC := SS_bound f h x0.length (fun i hi => (hf i hi).2) (fun i hi => (hh i (by omega)).2) x0.length (by omega)
      have hsum := SS_sum f g h x0.length
      have hcs := cauchy _ _ _ bA.1 bB.1 (fun t s => quad f g h t s x0.length)
      obtain ⟨A, eA⟩ := Int.eq_ofNat_of_zero_le bA.1
      obtain ⟨B, eB⟩ := Int.eq_ofNat_of_zero_le bB.1
      obtain ⟨C, eC⟩ := Int.eq_ofNat_of_zero_le bC.1
      rw [eA] at u2 r2 bA hcs hsum; rw [eB] at v2 bB hcs hsum; rw [eC] at w2 bC hsum
      obtain ⟨a, a1, a2⟩ := isqrt_ex (A * 2 ^ 76)
      obtain ⟨b, b1, b2⟩ := isqrt_ex (B * 2 ^ 76)
      obtain ⟨c, c1, c2⟩ := isqrt_ex (C * 2 ^ 76)
      have small : ∀ n m : Nat, m ≤ 2 ^ 26 → n * n ≤ m * 2 ^ 76 → n ≤ 2 ^ 51 := fun n m h1 h2 => by
        refine sq_le (Nat.le_trans h2 (Nat.le_trans (Nat.mul_le_mul_right _ h1) ?_))
        exact (by decide : (2 : Nat) ^ 26 * 2 ^ 76 ≤ 2 ^ 51 * 2 ^ 51)
      have h4 := roots_tri (A : Int) B C (SP f g h x0.length) ((2 ^ 76 : Nat) : Int) a b c (by omega) (by omega) (by decide) (by omega) (by omega) hcs (by omega)
        (by exact_mod_cast a2) (by exact_mod_cast b2) (by exact_mod_cast c1)
      have fin := below_tri u2 v2 w2 (by omega) (by omega) (by omega) a1 b1 (Nat.le_of_lt c2) (by omega) (small a A (by omega) a1) (small b B (by omega) b1)
      have hfe : feq (gsqrt u) (gsqrt r) = true := by
        have bigA : A < 2 ^ 1000 := Nat.lt_of_le_of_lt (show A ≤ 2 ^ 26 by omega) (pow_lt2 26 1000 (by omega))
        by_cases h0 : A = 0
        · subst h0
          have e1 : D (gsqrt u) ((0 : Nat) : Int) 1074 := gsqrt_square (d := 0) u2 (by omega)
          have e2 : D (gsqrt r) ((0 : Nat) : Int) 1074 := gsqrt_square (d := 0) r2 (by omega)
          rw [D_eq e1 e2]; simp
        · have e := gsqrt_read (D_read u2 r2 (by omega))
          obtain ⟨N, n1, _⟩ := gsqrt_near u2 bigA
          rw [← e, D_eq n1 n1]; simp
      rw [hfe, br_true, fin]
  unfold laws_FnVTriangle laws_FnVTriangle_j1
  by_cases h0 : 2147483647 < (x0.length : Int)
  · rw [decide_eq_true h0, br_true]; rfl
  rw [decide_eq_false h0, br_false]
  by_cases h1 : 2147483647 < (x1.length : Int)
  · rw [decide_eq_true h1, br_true]; rfl
  rw [decide_eq_false h1, br_false]
  by_cases h2 : 2147483647 < (x2.length : Int)
  · rw [decide_eq_true h2]; rfl
  rw [decide_eq_false h2]
  exact key
end Go.Proofs.Ytlgphoeonciheaa
