/-
  The signed area of a closed line is the sum of those of its two parts, and has the other sign if it is turned about: the plain statement. Ours.
-/
import Derived.Test.YtnemkhcjmenfnaaPlaneTo
namespace Go.Proofs.Ytnemkhcjmenfnaa
open Go.Sx
set_option linter.unusedVariables false
set_option linter.unusedSimpArgs false
set_option maxRecDepth 100000

/-! #### areas of whole numbers -/
/-- twice the area to the way, by the cross products -/
def shoe : List (Int × Int) → Int
  | [] => 0
  | [_] => 0
  | p :: q :: r => (q.1 * p.2 - p.1 * q.2) + shoe (q :: r)
theorem shoe_cons (p q : Int × Int) (r : List (Int × Int)) : shoe (p :: q :: r) = (q.1 * p.2 - p.1 * q.2) + shoe (q :: r) := rfl
theorem shoe_app : ∀ (l : List (Int × Int)) (a : Int × Int) (m : List (Int × Int)), shoe (l ++ a :: m) = shoe (l ++ [a]) + shoe (a :: m)
  | [], a, m => by simp [shoe]
  | [p], a, m => by simp [shoe]
  | p :: q :: l, a, m => by
    have := shoe_app (q :: l) a m
    simp only [List.cons_append] at this ⊢
    rw [shoe_cons, shoe_cons, this]; omega
theorem shoe_two (p q : Int × Int) : shoe [p, q] = q.1 * p.2 - p.1 * q.2 := by simp [shoe]
theorem shoe_snoc (l : List (Int × Int)) (a b : Int × Int) : shoe (l ++ [a, b]) = shoe (l ++ [a]) + (b.1 * a.2 - a.1 * b.2) := by
  rw [show l ++ [a, b] = l ++ a :: [b] from rfl, shoe_app, shoe_two]
theorem shoe_rev : ∀ (l : List (Int × Int)), shoe l.reverse = - shoe l
  | [] => rfl
  | [p] => rfl
  | p :: q :: r => by
    have := shoe_rev (q :: r)
    rw [List.reverse_cons] at this
    rw [List.reverse_cons, List.reverse_cons, List.append_assoc]
    show shoe (r.reverse ++ [q, p]) = _
    rw [shoe_snoc, this, shoe_cons]; omega

/-- the package's sum: partial sums -/
def part (P : List (Int × Int)) : Nat → Int
  | 0 => 0
  | j + 1 => part P j + ((P.getD (j + 1) (0, 0)).1 - (P.getD 0 (0, 0)).1) * ((P.getD j (0, 0)).2 - (P.getD (j + 2) (0, 0)).2)
theorem take_two {α : Type} (l : List α) (j : Nat) (d : α) (h : j + 1 < l.length) : l.take (j + 2) = l.take j ++ [l.getD j d, l.getD (j + 1) d] := by
  have e1 : l.getD j d = l[j] := by simp [List.getD, List.getElem?_eq_getElem (show j < l.length by omega)]
  have e2 : l.getD (j + 1) d = l[j + 1] := by simp [List.getD, List.getElem?_eq_getElem h]
  rw [e1, e2, List.take_succ_eq_append_getElem h, List.take_succ_eq_append_getElem (by omega), List.append_assoc]; rfl
theorem take_one {α : Type} (l : List α) (j : Nat) (d : α) (h : j < l.length) : l.take (j + 1) = l.take j ++ [l.getD j d] := by
  have e1 : l.getD j d = l[j] := by simp [List.getD, List.getElem?_eq_getElem h]
  rw [e1, List.take_succ_eq_append_getElem h]
theorem part_is (P : List (Int × Int)) : ∀ j, j + 1 < P.length → part P j = shoe (P.take (j + 2)) - (P.getD 0 (0, 0)).1 * ((P.getD 0 (0, 0)).2 - (P.getD (j + 1) (0, 0)).2) - ((P.getD (j + 1) (0, 0)).1 - (P.getD 0 (0, 0)).1) * (P.getD j (0, 0)).2
  | 0, h => by
    rw [take_two P 0 (0, 0) h]
    simp only [List.take_zero, List.nil_append, shoe_two, part]
    grind
  | j + 1, h => by
    have ih := part_is P j (by omega)
    rw [part, take_two P (j + 1) (0, 0) h, shoe_snoc, ← take_one P (j + 1) (0, 0) (by omega), ih]
    grind
/-- of a closed line of three places at least -/
theorem part_closed (P : List (Int × Int)) (m : Nat) (hl : P.length = m + 2) (hc : P.getD (m + 1) (0, 0) = P.getD 0 (0, 0)) : part P m = shoe P := by
  rw [part_is P m (by omega), hc, List.take_of_length_le (by omega)]
  grind
theorem part_le (P : List (Int × Int)) (b : Nat) (hb : ∀ i, (P.getD i (0, 0)).1.natAbs ≤ b ∧ (P.getD i (0, 0)).2.natAbs ≤ b) : ∀ j, (part P j).natAbs ≤ j * (2 * b * (2 * b))
  | 0 => by simp [part]
  | j + 1 => by
    have ih := part_le P b hb j
    rw [part]
    have h1 : ((P.getD (j + 1) (0, 0)).1 - (P.getD 0 (0, 0)).1).natAbs ≤ 2 * b := by have := hb (j + 1); have := hb 0; omega
    have h2 : ((P.getD j (0, 0)).2 - (P.getD (j + 2) (0, 0)).2).natAbs ≤ 2 * b := by have := hb j; have := hb (j + 2); omega
    have h3 : (((P.getD (j + 1) (0, 0)).1 - (P.getD 0 (0, 0)).1) * ((P.getD j (0, 0)).2 - (P.getD (j + 2) (0, 0)).2)).natAbs ≤ 2 * b * (2 * b) := by
      rw [Int.natAbs_mul]; exact Nat.mul_le_mul h1 h2
    have := Int.natAbs_add_le (part P j) (((P.getD (j + 1) (0, 0)).1 - (P.getD 0 (0, 0)).1) * ((P.getD j (0, 0)).2 - (P.getD (j + 2) (0, 0)).2))
    rw [Nat.add_mul, Nat.one_mul]
    omega

/-! #### floats that stand for whole places -/
/-- these places, as whole numbers not above 2^20 -/
def Pl (l : List (Nat × Nat)) (P : List (Int × Int)) : Prop := l.length = P.length ∧ ∀ i, i < l.length → D (l.getD i (0, 0)).1 (P.getD i (0, 0)).1 1074 ∧ D (l.getD i (0, 0)).2 (P.getD i (0, 0)).2 1074 ∧ (P.getD i (0, 0)).1.natAbs ≤ 1048576 ∧ (P.getD i (0, 0)).2.natAbs ≤ 1048576
theorem getD_get {α : Type} {l : List α} {i : Nat} {d : α} (h : i < l.length) : l.getD i d = l[i] := by simp [List.getD, List.getElem?_eq_getElem h]
theorem pl_of_mem : ∀ (l : List (Nat × Nat)), (∀ x ∈ l, ∃ m n : Int, D x.1 m 1074 ∧ m.natAbs ≤ 1048576 ∧ D x.2 n 1074 ∧ n.natAbs ≤ 1048576) → ∃ P, Pl l P
  | [], _ => ⟨[], rfl, fun i h => by simp at h⟩
  | x :: l, h => by
    obtain ⟨m, n, h1, h2, h3, h4⟩ := h x (by simp)
    obtain ⟨P, hP1, hP2⟩ := pl_of_mem l fun y hy => h y (List.mem_cons_of_mem _ hy)
    refine ⟨(m, n) :: P, by simp [hP1], fun i hi => ?_⟩
    cases i with
    | zero => exact ⟨h1, h3, h2, h4⟩
    | succ i => exact hP2 i (by simpa using hi)
theorem pl_app {l m : List (Nat × Nat)} {P R : List (Int × Int)} (h : Pl l P) (h' : Pl m R) : Pl (l ++ m) (P ++ R) := by
  refine ⟨by simp [h.1, h'.1], fun i hi => ?_⟩
  by_cases hil : i < l.length
  · rw [show (l ++ m).getD i (0, 0) = l.getD i (0, 0) from by simp [List.getD, List.getElem?_append_left hil], show (P ++ R).getD i (0, 0) = P.getD i (0, 0) from by simp [List.getD, List.getElem?_append_left (show i < P.length by rw [← h.1]; exact hil)]]
    exact h.2 i hil
  · have hi2 : i - l.length < m.length := by rw [List.length_append] at hi; omega
    rw [show (l ++ m).getD i (0, 0) = m.getD (i - l.length) (0, 0) from by simp [List.getD, List.getElem?_append_right (show l.length ≤ i by omega)],
      show (P ++ R).getD i (0, 0) = R.getD (i - l.length) (0, 0) from by simp [List.getD, List.getElem?_append_right (show P.length ≤ i by rw [← h.1]; omega), h.1]]
    exact h'.2 _ hi2
theorem pl_take {l : List (Nat × Nat)} {P : List (Int × Int)} (h : Pl l P) (n : Nat) : Pl (l.take n) (P.take n) := by
  refine ⟨by simp [h.1], fun i hi => ?_⟩
  rw [List.length_take] at hi
  rw [show (l.take n).getD i (0, 0) = l.getD i (0, 0) from by simp [List.getD, List.getElem?_take_of_lt (show i < n by omega)], show (P.take n).getD i (0, 0) = P.getD i (0, 0) from by simp [List.getD, List.getElem?_take_of_lt (show i < n by omega)]]
  exact h.2 i (by omega)
theorem pl_drop {l : List (Nat × Nat)} {P : List (Int × Int)} (h : Pl l P) (n : Nat) : Pl (l.drop n) (P.drop n) := by
  refine ⟨by simp [h.1], fun i hi => ?_⟩
  rw [List.length_drop] at hi
  rw [show (l.drop n).getD i (0, 0) = l.getD (n + i) (0, 0) from by simp [List.getD], show (P.drop n).getD i (0, 0) = P.getD (n + i) (0, 0) from by simp [List.getD]]
  exact h.2 (n + i) (by omega)
theorem pl_one {l : List (Nat × Nat)} {P : List (Int × Int)} (h : Pl l P) {i : Nat} (hi : i < l.length) : Pl [l.getD i (0, 0)] [P.getD i (0, 0)] :=
  ⟨rfl, fun j hj => by
    have hj0 : j = 0 := by simpa using hj
    subst hj0
    exact h.2 i hi⟩
theorem pl_rev {l : List (Nat × Nat)} {P : List (Int × Int)} (h : Pl l P) : Pl l.reverse P.reverse := by
  refine ⟨by simp [h.1], fun i hi => ?_⟩
  rw [List.length_reverse] at hi
  have e1 : l.reverse.getD i (0, 0) = l.getD (l.length - 1 - i) (0, 0) := by simp [List.getD, List.getElem?_reverse hi]
  have e2 : P.reverse.getD i (0, 0) = P.getD (l.length - 1 - i) (0, 0) := by simp [List.getD, List.getElem?_reverse (show i < P.length by rw [← h.1]; exact hi), h.1]
  rw [e1, e2]
  exact h.2 _ (by omega)

/-! #### the row of a list of places -/
theorem bare_is (l : List (Nat × Nat)) (hl : l.length ≤ 1000) (k : Nat) (hk : l.length < k) : laws_bare k l = some (l.flatMap fun x => [x.1, x.2]) := by
  obtain ⟨y, hy, hQ⟩ := loop_inv (F := laws_bare_l1 l) 0 (fun m x => ∃ i : Nat, x = ((l.take i).flatMap fun x => [x.1, x.2], (i : Int)) ∧ i + m = l.length) (fun y => y = l.flatMap fun x => [x.1, x.2]) (fun k m x _ => by
    rintro ⟨i, rfl, him⟩
    have hlen : ∀ l : List (Nat × Nat), (l.flatMap fun x => [x.1, x.2]).length = 2 * l.length := fun l => by induction l with
      | nil => rfl
      | cons a l ih => simp [ih]; omega
    by_cases hi : i < l.length
    · refine .inr ⟨m - 1, _, by omega, ⟨i + 1, rfl, by omega⟩, ?_⟩
      simp only [laws_bare_l1, laws_bare_l1s, lt_true hi, br_true, idx_get hi, Option.bind_eq_bind, Option.bind_some]
      rw [apd_some (by rw [hlen, List.length_take]; simp; omega) (by rw [hlen, List.length_take]; simp; omega), Option.bind_some, iadd_one (show i < 9223372036854775807 by omega), List.take_succ_eq_append_getElem hi, List.flatMap_append]
      rfl
    · refine .inl ⟨(l.take i).flatMap fun x => [x.1, x.2], by simp only [laws_bare_l1, laws_bare_l1s, lt_false hi, br_false], ?_⟩
      show _ = _
      rw [List.take_of_length_le (by omega)]) l.length ([], 0) k ⟨0, rfl, by omega⟩ (by omega)
  unfold laws_bare
  rw [hy, sbind, hQ]
theorem bare_idx (l : List (Nat × Nat)) (i : Nat) (h : i < l.length) : idx (l.flatMap fun x => [x.1, x.2]) ((2 * i : Nat) : Int) = some (l.getD i (0, 0)).1 ∧ idx (l.flatMap fun x => [x.1, x.2]) ((2 * i + 1 : Nat) : Int) = some (l.getD i (0, 0)).2 := by
  have key : ∀ (l : List (Nat × Nat)) (i : Nat), i < l.length → (l.flatMap fun x => [x.1, x.2])[2 * i]? = some (l.getD i (0, 0)).1 ∧ (l.flatMap fun x => [x.1, x.2])[2 * i + 1]? = some (l.getD i (0, 0)).2 := by
    intro l
    induction l with
    | nil => intro i h; simp at h
    | cons a l ih =>
      intro i h
      cases i with
      | zero => exact ⟨rfl, rfl⟩
      | succ i =>
        have := ih i (by simpa using h)
        simpa [List.flatMap_cons, show 2 * (i + 1) = 2 * i + 2 from by omega, show 2 * (i + 1) + 1 = 2 * i + 1 + 2 from by omega] using this
  obtain ⟨h1, h2⟩ := key l i h
  rw [idx_nat, idx_nat]; exact ⟨h1, h2⟩

theorem area_is (l : List (Nat × Nat)) (P : List (Int × Int)) (h : Pl l P) (m : Nat) (hm : 1 ≤ m) (hl : l.length = m + 2) (hb : m ≤ 200) (hc : P.getD (m + 1) (0, 0) = P.getD 0 (0, 0)) :
    ∃ x, impl_SignedArea 1000 1 (l.flatMap fun x => [x.1, x.2]) = some (x, true) ∧ D x (shoe P) 1073 ∧ x < 2 ^ 64 := by
  have hlen : (l.flatMap fun x => [x.1, x.2]).length = 2 * (m + 2) := by
    rw [← hl]
    have : ∀ l : List (Nat × Nat), (l.flatMap fun x => [x.1, x.2]).length = 2 * l.length := fun l => by induction l with
      | nil => rfl
      | cons a l ih => simp [ih]; omega
    exact this l
  have hP : ∀ i, (P.getD i (0, 0)).1.natAbs ≤ 1048576 ∧ (P.getD i (0, 0)).2.natAbs ≤ 1048576 := fun i => by
    by_cases hi : i < l.length
    · exact (h.2 i hi).2.2
    · rw [show P.getD i (0, 0) = (0, 0) from by simp [List.getD, List.getElem?_eq_none (show P.length ≤ i by rw [← h.1]; omega)]]; simp
  obtain ⟨i0, _⟩ := bare_idx l 0 (by omega)
  generalize hL : (l.flatMap fun x => [x.1, x.2]) = L at *
  obtain ⟨y, hy, hQ⟩ := loop_inv (F := xy_SignedArea_l1 L 2 (l.getD 0 (0, 0)).1) 0 (fun r x => ∃ (j : Nat) (s : Nat), x = (s, ((2 * (j + 1) : Nat) : Int)) ∧ j + r = m ∧ D s (part P j) 1074) (fun y => D y (part P m) 1074) (fun k r x _ => by
    rintro ⟨j, s, rfl, hjr, hs⟩
    have hsub : isub .i64 (L.length : Int) 2 = ((2 * (m + 1) : Nat) : Int) := by rw [hlen, isub_i64 (by omega) (by omega)]; omega
    by_cases hj : j < m
    · obtain ⟨a1, _⟩ := bare_idx l (j + 1) (by omega)
      obtain ⟨_, a2⟩ := bare_idx l (j + 2) (by omega)
      obtain ⟨_, a3⟩ := bare_idx l j (by omega)
      rw [hL] at a1 a2 a3
      have e1 : iadd .i64 ((2 * (j + 1 + 1) : Nat) : Int) 1 = ((2 * (j + 2) + 1 : Nat) : Int) := by rw [iadd_i64 (by omega) (by omega)]; omega
      have e2 : iadd .i64 (isub .i64 ((2 * (j + 1) : Nat) : Int) 2) 1 = ((2 * j + 1 : Nat) : Int) := by rw [isub_i64 (by omega) (by omega), iadd_i64 (by omega) (by omega)]; omega
      have e3 : iadd .i64 ((2 * (j + 1) : Nat) : Int) 2 = ((2 * (j + 1 + 1) : Nat) : Int) := by rw [iadd_i64 (by omega) (by omega)]; omega
      have hd : decide (((2 * (j + 1) : Nat) : Int) < ((2 * (m + 1) : Nat) : Int)) = true := by simp; omega
      have q0 := h.2 0 (by omega); have q1 := h.2 (j + 1) (by omega); have q2 := h.2 (j + 2) (by omega); have q3 := h.2 j (by omega)
      have d1 := gsub_D q1.1 q0.1 rfl (by omega) (by omega)
      have d2 := gsub_D q3.2.1 q2.2.1 rfl (by omega) (by omega)
      have hmul : (((P.getD (j + 1) (0, 0)).1 - (P.getD 0 (0, 0)).1) * ((P.getD j (0, 0)).2 - (P.getD (j + 2) (0, 0)).2)).natAbs ≤ 4398046511104 := by
        rw [Int.natAbs_mul]
        have w1 : ((P.getD (j + 1) (0, 0)).1 - (P.getD 0 (0, 0)).1).natAbs ≤ 2097152 := by omega
        have w2 : ((P.getD j (0, 0)).2 - (P.getD (j + 2) (0, 0)).2).natAbs ≤ 2097152 := by omega
        have := Nat.mul_le_mul w1 w2; omega
      have d3 := gmul_D (u := 1074) d1 d2 rfl (by omega) (by omega) (by omega) (by omega)
      have hpl := part_le P 1048576 hP j
      have hj200 : j * (2 * 1048576 * (2 * 1048576)) ≤ 200 * (2 * 1048576 * (2 * 1048576)) := Nat.mul_le_mul_right _ (by omega)
      have d4 := gadd_D hs d3 (c := part P (j + 1)) rfl (by
        have := part_le P 1048576 hP (j + 1)
        have : (j + 1) * (2 * 1048576 * (2 * 1048576)) ≤ 200 * (2 * 1048576 * (2 * 1048576)) := Nat.mul_le_mul_right _ (by omega)
        omega) (by omega)
      refine .inr ⟨r - 1, _, by omega, ⟨j + 1, _, rfl, by omega, d4⟩, ?_⟩
      simp only [xy_SignedArea_l1, xy_SignedArea_l1s, hsub, hd, br_true, a1, a2, a3, e1, e2, e3, Option.bind_eq_bind, Option.bind_some]
    · obtain rfl : j = m := by omega
      have hd : decide (((2 * (j + 1) : Nat) : Int) < ((2 * (j + 1) : Nat) : Int)) = false := by simp
      exact .inl ⟨s, by simp only [xy_SignedArea_l1, xy_SignedArea_l1s, hsub, hd, br_false], hs⟩) m (0, 2) 1000 ⟨0, 0, rfl, by omega, D_zero _⟩ (by omega)
  have hge : decide ((L.length : Int) < imul .i64 3 2) = false := by rw [show imul .i64 3 2 = 6 from by decide, hlen]; simp; omega
  rw [part_closed P m (by rw [← h.1]; omega) hc] at hQ
  have hst : gogeom_Layout_Stride 1000 1 = some 2 := rfl
  have hi0 : idx L 0 = some (l.getD 0 (0, 0)).1 := i0
  refine ⟨gdiv y 4611686018427387904, by simp only [impl_SignedArea, xy_SignedArea, hst, hge, br_false, hi0, hy, Option.bind_eq_bind, Option.bind_some], ?_, ?_⟩
  · exact half_D hQ (by
      have := part_le P 1048576 hP m
      rw [part_closed P m (by rw [← h.1]; omega) hc] at this
      have : m * (2 * 1048576 * (2 * 1048576)) ≤ 200 * (2 * 1048576 * (2 * 1048576)) := Nat.mul_le_mul_right _ (by omega)
      omega)
  · exact gdiv_lt _ _

theorem shoe_le (Q : List (Int × Int)) (k : Nat) (q : List (Nat × Nat)) (hq : Pl q Q) (hqk : q.length = k + 2) (hk : k ≤ 200) (hQc : Q.getD (k + 1) (0, 0) = Q.getD 0 (0, 0)) : (shoe Q).natAbs ≤ 200 * 4398046511104 := by
  have hQ' : ∀ i, (Q.getD i (0, 0)).1.natAbs ≤ 1048576 ∧ (Q.getD i (0, 0)).2.natAbs ≤ 1048576 := fun i => by
    by_cases hi : i < q.length
    · exact (hq.2 i hi).2.2
    · rw [show Q.getD i (0, 0) = (0, 0) from by simp [List.getD, List.getElem?_eq_none (show Q.length ≤ i by rw [← hq.1]; omega)]]; simp
  have h1 := part_le Q 1048576 hQ' k
  rw [part_closed Q k (by rw [← hq.1]; omega) hQc] at h1
  have h2 : k * (2 * 1048576 * (2 * 1048576)) ≤ 200 * (2 * 1048576 * (2 * 1048576)) := Nat.mul_le_mul_right _ hk
  exact Nat.le_trans h1 (Nat.le_trans h2 (by decide))

/-! #### turned about -/
theorem about1_is (l : List (Nat × Nat)) (n : Nat) (hl : l.length = n + 1) (hn : 2 ≤ n) (hb : n ≤ 200) :
    laws_about 1000 l 1 = some ((l.drop 1).take (n - 1) ++ [l.getD 0 (0, 0), l.getD 1 (0, 0)]).reverse := by
  have hsub : isub .i64 (l.length : Int) 1 = (n : Int) := by rw [isub_i64 (by omega) (by omega)]; omega
  -- the first loop: begun one place later
  have hfst : laws_about_l1 l 1 1000 ([], 0) = some ((l.drop 1).take (n - 1) ++ [l.getD 0 (0, 0)]) := by
    obtain ⟨y, hy, hQ⟩ := loop_inv (F := laws_about_l1 l 1) 0 (fun m x => ∃ i : Nat, x = (((l.drop 1).take (n - 1) ++ [l.getD 0 (0, 0)]).take i, (i : Int)) ∧ i + m = n) (fun y => y = (l.drop 1).take (n - 1) ++ [l.getD 0 (0, 0)]) (fun k m x _ => by
      rintro ⟨i, rfl, him⟩
      have hlen : ((l.drop 1).take (n - 1) ++ [l.getD 0 (0, 0)]).length = n := by simp [hl]; omega
      by_cases hi : i < n
      · have hd : decide ((i : Int) < (n : Int)) = true := by simp; omega
        have hr1 : irem 1 (n : Int) = some 1 := by
          unfold irem
          rw [if_neg (by omega)]
          congr 1
          exact Int.tmod_eq_of_lt (by omega) (by omega)
        have hr2 : irem (iadd .i64 (iadd .i64 (i : Int) 1) (n : Int)) (n : Int) = some (((i + 1) % n : Nat) : Int) := by
          rw [iadd_i64 (a := (i : Int)) (by omega) (by omega), iadd_i64 (by omega) (by omega)]
          unfold irem
          rw [if_neg (by omega)]
          congr 1
          rw [show (i : Int) + 1 + (n : Int) = ((i + 1 + n : Nat) : Int) from by omega, ← Int.ofNat_tmod, Nat.add_mod_right]
        have hlt : (i + 1) % n < l.length := by have := Nat.mod_lt (i + 1) (show 0 < n by omega); omega
        have hget : ((l.drop 1).take (n - 1) ++ [l.getD 0 (0, 0)])[i]'(by rw [hlen]; exact hi) = l[(i + 1) % n] := by
          by_cases hi2 : i < n - 1
          · rw [List.getElem_append_left (by simp [hl]; omega)]
            simp only [List.getElem_take, List.getElem_drop]
            congr 1
            rw [Nat.mod_eq_of_lt (by omega)]; omega
          · obtain rfl : i = n - 1 := by omega
            rw [List.getElem_append_right (by simp [hl])]
            have e0 : (n - 1 + 1) % n = 0 := by rw [show n - 1 + 1 = n from by omega, Nat.mod_self]
            simp only [List.length_take, List.length_drop, hl, List.getElem_singleton]
            rw [getD_get (show 0 < l.length by omega)]
            congr 1
            exact e0.symm
        refine .inr ⟨m - 1, _, by omega, ⟨i + 1, rfl, by omega⟩, ?_⟩
        simp only [laws_about_l1, laws_about_l1s, hsub, hd, br_true, hr1, hr2, idx_get hlt, Option.bind_eq_bind, Option.bind_some]
        rw [apd_some (by rw [List.length_take]; simp; omega) (by rw [List.length_take]; simp; omega), Option.bind_some, iadd_one (show i < 9223372036854775807 by omega), List.take_succ_eq_append_getElem (by rw [hlen]; exact hi), hget]
      · obtain rfl : i = n := by omega
        have hd : decide ((i : Int) < (i : Int)) = false := by simp
        exact .inl ⟨((l.drop 1).take (i - 1) ++ [l.getD 0 (0, 0)]).take i, by simp only [laws_about_l1, laws_about_l1s, hsub, hd, br_false], List.take_of_length_le (by omega)⟩) n ([], 0) 1000 ⟨0, rfl, by omega⟩ (by omega)
    rw [hy, hQ]
  have hlen1 : ((l.drop 1).take (n - 1) ++ [l.getD 0 (0, 0)]).length = n := by simp [hl]; omega
  unfold laws_about
  rw [hfst, sbind]
  obtain ⟨b, hbl⟩ : ∃ b, (l.drop 1).take (n - 1) ++ [l.getD 0 (0, 0)] = b := ⟨_, rfl⟩
  have hb0 : b.getD 0 (0, 0) = l.getD 1 (0, 0) := by
    rw [← hbl]
    simp only [List.getD]
    rw [List.getElem?_append_left (by simp [hl]; omega), List.getElem?_take_of_lt (by omega), List.getElem?_drop]
  rw [hbl] at hlen1 ⊢
  have hi0 : idx b 0 = some (b.getD 0 (0, 0)) := by
    rw [getD_get (show 0 < b.length by omega)]; exact idx_get (show 0 < b.length by omega)
  have hpair : [((b.getD 0 (0, 0)).1, (b.getD 0 (0, 0)).2)] = [b.getD 0 (0, 0)] := rfl
  rw [hi0, sbind, hpair, apd_some (by simp; omega) (by simp; omega), sbind]
  have hfin : (l.drop 1).take (n - 1) ++ [l.getD 0 (0, 0), l.getD 1 (0, 0)] = b ++ [b.getD 0 (0, 0)] := by rw [hb0, ← hbl]; simp
  rw [hfin]
  obtain ⟨c, hc⟩ : ∃ c, b ++ [b.getD 0 (0, 0)] = c := ⟨_, rfl⟩
  have hcl : c.length = n + 1 := by rw [← hc]; simp [hlen1]
  rw [hc]
  -- the second loop: exchanges from both ends
  obtain ⟨y, hy, hQ⟩ := loop_inv (F := laws_about_l2 1) 0 (fun m x => ∃ (i : Nat) (e : List (Nat × Nat)), x = (e, (i : Int)) ∧ i + m = (n + 1) / 2 ∧ e.length = n + 1 ∧ ∀ j, j < n + 1 → e.getD j (0, 0) = if j < i ∨ n - j < i then c.getD (n - j) (0, 0) else c.getD j (0, 0)) (fun y => y = c.reverse) (fun k m x _ => by
    rintro ⟨i, e, rfl, him, hel, hej⟩
    have hr : irem 1 2 = some 1 := rfl
    have hq : iquo .i64 (e.length : Int) 2 = some (((n + 1) / 2 : Nat) : Int) := by
      unfold iquo
      rw [if_neg (by omega), hel]
      congr 1
      rw [show (2 : Int) = ((2 : Nat) : Int) from rfl, ← Int.ofNat_tdiv]
      exact wrap_i64 (by omega) (by omega)
    have h1 : (!decide ((1 : Int) = 0)) = true := rfl
    by_cases hi : i < (n + 1) / 2
    · have hd : decide ((i : Int) < (((n + 1) / 2 : Nat) : Int)) = true := by simp; omega
      have hs : isub .i64 (isub .i64 (e.length : Int) 1) (i : Int) = ((n - i : Nat) : Int) := by
        rw [isub_i64 (a := (e.length : Int)) (by omega) (by omega), isub_i64 (by omega) (by omega)]; omega
      have g1 : n - i < e.length := by omega
      have g2 : i < e.length := by omega
      have hs2 : isub .i64 (isub .i64 ((e.set i (e[n - i].1, e[n - i].2)).length : Int) 1) (i : Int) = ((n - i : Nat) : Int) := by rw [List.length_set]; exact hs
      refine .inr ⟨m - 1, ((e.set i e[n - i]).set (n - i) e[i], ((i + 1 : Nat) : Int)), by omega, ⟨i + 1, _, rfl, by omega, by simp [hel], fun j hj => ?_⟩, ?_⟩
      · have ei := hej i (by omega); have eni := hej (n - i) (by omega); have ejj := hej j hj
        rw [getD_get g2, if_neg (by omega)] at ei
        rw [getD_get g1, if_neg (by omega)] at eni
        by_cases c1 : j = n - i
        · subst c1
          rw [getD_get (by simp; omega), List.getElem_set_self, ei, if_pos (by omega)]
          congr 1; omega
        · by_cases c2 : j = i
          · subst c2
            rw [getD_get (by simp; omega), List.getElem_set_ne (by omega), List.getElem_set_self, eni, if_pos (by omega)]
          · rw [getD_get (by simp; omega), List.getElem_set_ne (by omega), List.getElem_set_ne (by omega), ← getD_get (d := (0, 0)) (show j < e.length by omega), ejj]
            by_cases c3 : j < i ∨ n - j < i
            · rw [if_pos c3, if_pos (by omega)]
            · rw [if_neg c3, if_neg (by omega)]
      · simp only [laws_about_l2, laws_about_l2s, hr, h1, br_true, hq, hd, laws_about_j1, hs, idx_get g1, idx_get g2, Option.bind_eq_bind, Option.bind_some, Int.toNat_natCast]
        rw [idx_get (show n - i < (e.set i (e[n - i].1, e[n - i].2)).length by simp; omega), Option.bind_some, iadd_one (show i < 9223372036854775807 by omega)]
    · have hd : decide ((i : Int) < (((n + 1) / 2 : Nat) : Int)) = false := by simp; omega
      refine .inl ⟨e, by simp only [laws_about_l2, laws_about_l2s, hr, h1, br_true, br_false, hq, hd, laws_about_j1, Option.bind_eq_bind, Option.bind_some], ?_⟩
      refine List.ext_getElem (by simp [hel, hcl]) fun j hj1 hj2 => ?_
      have hjn : j < n + 1 := by omega
      have := hej j hjn
      rw [getD_get hj1] at this
      rw [this, List.getElem_reverse]
      by_cases c3 : j < i ∨ n - j < i
      · rw [if_pos c3, getD_get (show n - j < c.length by omega)]
        congr 1; omega
      · rw [if_neg c3, getD_get (show j < c.length by omega)]
        congr 1; omega) ((n + 1) / 2) (c, 0) 1000 ⟨0, c, rfl, by omega, hcl, fun j hj => by rw [if_neg (by omega)]⟩ (by omega)
  rw [hy, sbind, hQ]

/-! #### the law -/
theorem shut_is (k : Nat) (l : List (Nat × Nat)) (hl : l.length ≤ 2147483647) : ∃ b, laws_shut k l = some b ∧ (b = true → 1 < l.length ∧ feq (l.getD 0 (0, 0)).1 (l.getD (l.length - 1) (0, 0)).1 = true ∧ feq (l.getD 0 (0, 0)).2 (l.getD (l.length - 1) (0, 0)).2 = true) := by
  unfold laws_shut
  by_cases h : (1 : Int) < (l.length : Int)
  · have i0 : idx l 0 = some (l.getD 0 (0, 0)) := by rw [getD_get (show 0 < l.length by omega)]; exact idx_get (show 0 < l.length by omega)
    have i1 : idx l (isub .i64 (l.length : Int) 1) = some (l.getD (l.length - 1) (0, 0)) := by
      rw [isub_i64 (by omega) (by omega), show (l.length : Int) - 1 = ((l.length - 1 : Nat) : Int) from by omega, getD_get (show l.length - 1 < l.length by omega)]
      exact idx_get (show l.length - 1 < l.length by omega)
    rw [decide_eq_true h, br_true, i0, sbind, i1, sbind]
    refine ⟨_, rfl, fun hb => ?_⟩
    simp only [Bool.and_true, Bool.and_eq_true] at hb
    exact ⟨by omega, hb.1, hb.2⟩
  · exact ⟨false, by rw [decide_eq_false h]; rfl, by simp⟩

theorem fact_FnSignedAreaSplit {q : Prop} (l : List (Nat × Nat)) (a1 : Int) (g0 : l.length ≤ maxLen ∧ ∀ x ∈ l, x.1 < 18446744073709551616 ∧ x.2 < 18446744073709551616) (g1 : q) : laws_FnSignedAreaSplit 1000 l a1 = some true := by
  unfold laws_FnSignedAreaSplit
  by_cases h0 : 2147483647 < (l.length : Int)
  · rw [decide_eq_true h0, br_true]
  rw [decide_eq_false h0, br_false]
  obtain ⟨b, hb, hb'⟩ := shut_is 1000 l (by omega)
  rw [hb, sbind]
  cases b with
  | false => rfl
  | true =>
    obtain ⟨hl1, hf1, hf2⟩ := hb' rfl
    rw [Bool.not_true, br_false]
    by_cases h1 : (l.length : Int) < 4
    · rw [decide_eq_true h1]; rfl
    rw [decide_eq_false h1]
    unfold laws_FnSignedAreaSplit_j1
    rw [br_false]
    by_cases h2 : 100 < (l.length : Int)
    · rw [decide_eq_true h2]; rfl
    rw [decide_eq_false h2]
    unfold laws_FnSignedAreaSplit_j2
    rw [br_false]
    by_cases h3 : a1 < 1
    · rw [decide_eq_true h3]; rfl
    rw [decide_eq_false h3]
    unfold laws_FnSignedAreaSplit_j3
    rw [br_false]
    by_cases h4 : isub .i64 (l.length : Int) 2 < a1
    · rw [decide_eq_true h4]; rfl
    rw [decide_eq_false h4]
    rw [isub_i64 (by omega) (by omega)] at h4
    unfold laws_FnSignedAreaSplit_j4
    rw [br_false]
    obtain ⟨r, hr, hr'⟩ := planeTo_is (k := 1000) 4697254411347427328 1048576 (D_two 20 (by omega)) (by omega) l (fun x hx => g0.2 x hx) (by omega) (by omega)
    rw [hr, sbind]
    cases r with
    | false => rfl
    | true =>
      obtain ⟨P, hP⟩ := pl_of_mem l (hr' rfl)
      obtain ⟨K, hK⟩ : ∃ K : Nat, a1 = (K : Int) := ⟨a1.toNat, by omega⟩
      subst hK
      obtain ⟨m, hm⟩ : ∃ m, l.length = m + 2 := ⟨l.length - 2, by omega⟩
      have hPl : P.length = m + 2 := by rw [← hP.1]; exact hm
      have hclose : P.getD (m + 1) (0, 0) = P.getD 0 (0, 0) := by
        have q0 := hP.2 0 (by omega); have q1 := hP.2 (m + 1) (by omega)
        rw [show l.length - 1 = m + 1 from by omega] at hf1 hf2
        rw [D_eq q0.1 q1.1] at hf1; rw [D_eq q0.2.1 q1.2.1] at hf2
        simp only [decide_eq_true_eq] at hf1 hf2
        exact Prod.ext hf1.symm hf2.symm
      unfold laws_FnSignedAreaSplit_j5
      rw [Bool.not_true, br_false]
      -- the parts
      have c1 : cut l 0 (iadd .i64 (K : Int) 1) = some (l.take (K + 1)) := by
        rw [iadd_i64 (by omega) (by omega), show (K : Int) + 1 = ((K + 1 : Nat) : Int) from by omega, cut_some (by omega) (by omega) (by omega)]; simp
      have c2 : cut l (K : Int) (l.length : Int) = some (l.drop K) := by
        rw [cut_some (by omega) (by omega) (by omega)]; simp
      have i0 : idx l 0 = some (l.getD 0 (0, 0)) := by rw [getD_get (show 0 < l.length by omega)]; exact idx_get (show 0 < l.length by omega)
      have hpair : [((l.getD 0 (0, 0)).1, (l.getD 0 (0, 0)).2)] = [l.getD 0 (0, 0)] := rfl
      have p1 : apd 16 [] (l.take (K + 1)) = some (l.take (K + 1)) := by rw [apd_some (by simp; omega) (by simp; omega)]; rfl
      have p2 : apd 16 (l.take (K + 1)) [l.getD 0 (0, 0)] = some (l.take (K + 1) ++ [l.getD 0 (0, 0)]) := by rw [apd_some (by simp; omega) (by simp; omega)]
      have p3 : apd 16 [l.getD 0 (0, 0)] (l.drop K) = some ([l.getD 0 (0, 0)] ++ l.drop K) := by rw [apd_some (by simp; omega) (by simp; omega)]
      have hP1 : Pl (l.take (K + 1) ++ [l.getD 0 (0, 0)]) (P.take (K + 1) ++ [P.getD 0 (0, 0)]) := pl_app (pl_take hP _) (pl_one hP (by omega))
      have hP2 : Pl ([l.getD 0 (0, 0)] ++ l.drop K) ([P.getD 0 (0, 0)] ++ P.drop K) := pl_app (pl_one hP (by omega)) (pl_drop hP _)
      obtain ⟨n, hn⟩ : ∃ n, l.length = n + 1 := ⟨l.length - 1, by omega⟩
      have hP3 : Pl ((l.drop 1).take (n - 1) ++ [l.getD 0 (0, 0), l.getD 1 (0, 0)]).reverse ((P.drop 1).take (n - 1) ++ [P.getD 0 (0, 0), P.getD 1 (0, 0)]).reverse :=
        pl_rev (pl_app (pl_take (pl_drop hP 1) _) (pl_app (l := [l.getD 0 (0, 0)]) (P := [P.getD 0 (0, 0)]) (pl_one hP (by omega)) (pl_one hP (i := 1) (by omega))))
      obtain ⟨x, x1, x2, x3⟩ := area_is l P hP m (by omega) hm (by omega) hclose
      have g1' : (P.take (K + 1) ++ [P.getD 0 (0, 0)]).getD (K + 1) (0, 0) = (P.take (K + 1) ++ [P.getD 0 (0, 0)]).getD 0 (0, 0) := by
        simp only [List.getD]
        rw [List.getElem?_append_right (by simp; omega), List.getElem?_append_left (by simp; omega), List.getElem?_take_of_lt (by omega)]
        simp [show K + 1 - min (K + 1) P.length = 0 from by omega]
      obtain ⟨y, y1, y2, y3⟩ := area_is _ _ hP1 K (by omega) (by simp; omega) (by omega) g1'
      have g2' : ([P.getD 0 (0, 0)] ++ P.drop K).getD (m + 1 - K + 1) (0, 0) = ([P.getD 0 (0, 0)] ++ P.drop K).getD 0 (0, 0) := by
        have : ([P.getD 0 (0, 0)] ++ P.drop K).getD (m + 1 - K + 1) (0, 0) = P.getD (m + 1) (0, 0) := by
          simp only [List.getD, List.cons_append, List.nil_append, List.getElem?_cons_succ, List.getElem?_drop]
          rw [show K + (m + 1 - K) = m + 1 from by omega]
        rw [this, hclose]; rfl
      obtain ⟨z, z1, z2, z3⟩ := area_is _ _ hP2 (m + 1 - K) (by omega) (by simp; omega) (by omega) g2'
      obtain ⟨C, hC⟩ : ∃ C, (P.drop 1).take (n - 1) ++ [P.getD 0 (0, 0), P.getD 1 (0, 0)] = C := ⟨_, rfl⟩
      have hCl : C.length = m + 2 := by rw [← hC]; simp; omega
      have g3' : C.reverse.getD (m + 1) (0, 0) = C.reverse.getD 0 (0, 0) := by
        have e1 : C.reverse.getD (m + 1) (0, 0) = C.getD 0 (0, 0) := by simp [List.getD, List.getElem?_reverse (show m + 1 < C.length by omega), hCl]
        have e2 : C.reverse.getD 0 (0, 0) = C.getD (m + 1) (0, 0) := by simp [List.getD, List.getElem?_reverse (show 0 < C.length by omega), hCl]
        rw [e1, e2, ← hC]
        simp only [List.getD]
        rw [List.getElem?_append_left (by simp; omega), List.getElem?_append_right (by simp; omega), List.getElem?_take_of_lt (by omega), List.getElem?_drop]
        have : m + 1 - (List.take (n - 1) (List.drop 1 P)).length = 1 := by simp; omega
        rw [this]; rfl
      rw [hC] at hP3
      obtain ⟨w, w1, w2, w3⟩ := area_is _ _ hP3 m (by omega) (by simp; omega) (by omega) g3'
      have b0 := bare_is l (by omega) 1000 (by omega)
      have b1 := bare_is (l.take (K + 1) ++ [l.getD 0 (0, 0)]) (by simp; omega) 1000 (by simp; omega)
      have b2 := bare_is ([l.getD 0 (0, 0)] ++ l.drop K) (by simp; omega) 1000 (by simp; omega)
      have b3 := bare_is ((l.drop 1).take (n - 1) ++ [l.getD 0 (0, 0), l.getD 1 (0, 0)]).reverse (by simp; omega) 1000 (by simp; omega)
      have ab := about1_is l n hn (by omega) (by omega)
      -- the whole numbers
      have hsum : shoe P = shoe (P.take (K + 1) ++ [P.getD 0 (0, 0)]) + shoe ([P.getD 0 (0, 0)] ++ P.drop K) := by
        have hKP : K < P.length := by omega
        have e1 : P.take (K + 1) = P.take K ++ [P.getD K (0, 0)] := take_one P K (0, 0) hKP
        have e2 : P.drop K = P.getD K (0, 0) :: P.drop (K + 1) := by rw [List.drop_eq_getElem_cons hKP, getD_get hKP]
        have e3 : P = P.take K ++ P.getD K (0, 0) :: P.drop (K + 1) := by rw [← e2, List.take_append_drop]
        have e4 : shoe P = shoe (P.take K ++ [P.getD K (0, 0)]) + shoe (P.getD K (0, 0) :: P.drop (K + 1)) := by
          conv => lhs; rw [e3]
          rw [shoe_app]
        rw [e4, e1, List.append_assoc]
        show _ = shoe (P.take K ++ [P.getD K (0, 0), P.getD 0 (0, 0)]) + shoe (P.getD 0 (0, 0) :: P.drop K)
        rw [shoe_snoc, e2, shoe_cons]
        grind
      have hneg : shoe C.reverse = - shoe P := by
        rw [shoe_rev]
        have e0 : P = P.getD 0 (0, 0) :: P.getD 1 (0, 0) :: P.drop 2 := by
          conv => lhs; rw [← List.drop_zero (l := P), List.drop_eq_getElem_cons (show 0 < P.length by omega), List.drop_eq_getElem_cons (show 0 + 1 < P.length by omega)]
          rw [getD_get (show 0 < P.length by omega), getD_get (show 1 < P.length by omega)]
        have e1 : (P.drop 1) = (P.drop 1).take (n - 1) ++ [P.getD (m + 1) (0, 0)] := by
          have := take_one (P.drop 1) (n - 1) (0, 0) (by simp; omega)
          rw [List.take_of_length_le (by simp; omega)] at this
          rw [← show (P.drop 1).getD (n - 1) (0, 0) = P.getD (m + 1) (0, 0) from by simp only [List.getD, List.getElem?_drop]; rw [show 1 + (n - 1) = m + 1 from by omega]]
          exact this
        have e2 : shoe P = (((P.getD 1 (0, 0)).1 * (P.getD 0 (0, 0)).2 - (P.getD 0 (0, 0)).1 * (P.getD 1 (0, 0)).2)) + shoe (P.drop 1) := by
          have hd1 : P.drop 1 = P.getD 1 (0, 0) :: P.drop 2 := by
            rw [List.drop_eq_getElem_cons (show 1 < P.length by omega), getD_get (show 1 < P.length by omega)]
          conv => lhs; rw [e0]
          rw [shoe_cons, hd1]
        rw [e2, e1, hclose, ← hC]
        have := shoe_snoc ((P.drop 1).take (n - 1)) (P.getD 0 (0, 0)) (P.getD 1 (0, 0))
        rw [this]; omega
      have bP := shoe_le P m l hP hm (by omega) hclose
      have dsum := gadd_D y2 z2 hsum.symm (by omega) (by omega)
      have f1 : feq x (gadd y z) = true := by rw [D_eq x2 dsum]; simp
      have f2 : feq w (fneg x) = true := by rw [D_eq w2 (D_fneg x3 x2), hneg]; simp
      rw [c1, sbind, p1, sbind, i0, sbind, hpair, p2, sbind, sbind, c2, sbind, p3, sbind, b0, sbind, x1, sbind, b1, sbind, y1, sbind, b2, sbind, z1, sbind, ab, sbind, b3, sbind, w1, sbind]
      show laws_FnSignedAreaSplit_j9 1000 (w, true) (x, true) (feq x (gadd y z)) = some true
      rw [f1]
      show some (feq w (fneg x)) = some true
      rw [f2]
end Go.Proofs.Ytnemkhcjmenfnaa
