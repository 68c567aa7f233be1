/-
  Least boxes about points of the grid, by values. Plain; ours.
-/
import Derived.Test.YtjgpiealnfbkcaaKtSame
import Derived.Test.YtjgpiealnfbkcaaOrderT
namespace Go.Proofs.Ytjgpiealnfbkcaa
open Go.Sx
set_option linter.unusedVariables false
set_option linter.unusedSimpArgs false
set_option maxRecDepth 100000

theorem D_same {x : Nat} {a b : Int} {v : Nat} (h : D x a v) (k : D x b v) : a = b := by
  have := D_eq h k
  have h2 := D_eq h h
  rw [decide_eq_true rfl] at h2
  rw [h2] at this
  exact of_decide_eq_true this.symm
theorem cv_of {x : Nat} {a : Int} (h : D x a 1074) : cv x = a := D_same (cv_is ⟨a, h⟩) h
theorem D_vv {x : Nat} {a : Int} {v : Nat} (h : D x a v) : isn x = false ∧ ∃ n, vv x = (0, n) ∧ (n = 0 → a = 0) := by
  have hn : isn x = false := D_num h
  refine ⟨hn, ?_⟩
  obtain ⟨s, m, q, h1, h2⟩ := h
  obtain ⟨n, h3, h4⟩ := vv_D h1
  refine ⟨n, h4, fun h0 => ?_⟩
  subst h0
  obtain ⟨s', m', q', h5, h6⟩ := h3
  rw [h1] at h5
  injection h5 with e1 e2 e3
  subst e1; subst e2
  have : q = q' := by omega
  subst this
  rw [h2] at h6
  have hp : (2 : Int) ^ v ≠ 0 := Int.pow_ne_zero (by decide)
  rcases Int.mul_eq_zero.1 (by simpa using h6 : a * 2 ^ v = 0) with e | e
  · exact e
  · exact absurd e hp
theorem mp_min {x y : Nat} {a b : Int} (hx : D x a 1074) (hy : D y b 1074) : D (mpick true .lt x y) (min a b) 1074 := by
  obtain ⟨nx, n, e1, z1⟩ := D_vv hx
  obtain ⟨ny, m, e2, z2⟩ := D_vv hy
  unfold mpick
  simp only [infin_iff nx, infin_iff ny, e1, e2]
  rw [decide_eq_false (by simp), decide_eq_false (by simp), Bool.or_false, if_neg (by simp)]
  have nx' : (FloatKind.f64.decode x).isNaN = false := nx
  have ny' : (FloatKind.f64.decode y).isNaN = false := ny
  rw [nx', ny', Bool.or_false, if_neg (by simp)]
  cases hz : ((FloatKind.f64.decode x).isZero && (FloatKind.f64.decode y).isZero) with
  | true =>
    rw [if_pos rfl]
    simp only [Bool.and_eq_true] at hz
    have w1 := zero_iff nx hz.1
    have w2 := zero_iff ny hz.2
    rw [e1] at w1; rw [e2] at w2
    have a0 := z1 (by simpa using w1)
    have b0 := z2 (by simpa using w2)
    subst a0; subst b0
    split
    · exact hx
    · exact hy
  | false =>
    rw [if_neg (by simp)]
    have ho : (FloatKind.f64.decode x).order (FloatKind.f64.decode y) = FloatKind.f64.format.order x y := rfl
    rw [ho, D_order hx hy]
    by_cases h : a < b
    · rw [Int.compare_eq_lt.2 h, if_pos (by rfl), Int.min_eq_left (by omega)]; exact hx
    · rw [if_neg, Int.min_eq_right (by omega)]
      · exact hy
      · intro e
        exact h (Int.compare_eq_lt.1 (by simpa using e))
theorem mp_max {x y : Nat} {a b : Int} (hx : D x a 1074) (hy : D y b 1074) : D (mpick false .gt x y) (max a b) 1074 := by
  obtain ⟨nx, n, e1, z1⟩ := D_vv hx
  obtain ⟨ny, m, e2, z2⟩ := D_vv hy
  unfold mpick
  simp only [infin_iff nx, infin_iff ny, e1, e2]
  rw [decide_eq_false (by simp), decide_eq_false (by simp), Bool.or_false, if_neg (by simp)]
  have nx' : (FloatKind.f64.decode x).isNaN = false := nx
  have ny' : (FloatKind.f64.decode y).isNaN = false := ny
  rw [nx', ny', Bool.or_false, if_neg (by simp)]
  cases hz : ((FloatKind.f64.decode x).isZero && (FloatKind.f64.decode y).isZero) with
  | true =>
    rw [if_pos rfl]
    simp only [Bool.and_eq_true] at hz
    have w1 := zero_iff nx hz.1
    have w2 := zero_iff ny hz.2
    rw [e1] at w1; rw [e2] at w2
    have a0 := z1 (by simpa using w1)
    have b0 := z2 (by simpa using w2)
    subst a0; subst b0
    split
    · exact hx
    · exact hy
  | false =>
    rw [if_neg (by simp)]
    have ho : (FloatKind.f64.decode x).order (FloatKind.f64.decode y) = FloatKind.f64.format.order x y := rfl
    rw [ho, D_order hx hy]
    by_cases h : b < a
    · rw [Int.compare_eq_gt.2 h, if_pos (by rfl), Int.max_eq_left (by omega)]; exact hx
    · rw [if_neg, Int.max_eq_right (by omega)]
      · exact hy
      · intro e
        exact h (Int.compare_eq_gt.1 (by simpa using e))
theorem f_min {x y : Nat} {a b : Int} (hx : D x a 1074) (hy : D y b 1074) : ∃ z, fmin x y = some z ∧ D z (min a b) 1074 := by
  unfold fmin
  rw [D_order hx hy]
  rcases Int.lt_trichotomy a b with h | h | h
  · rw [Int.compare_eq_lt.2 h, Int.min_eq_left (by omega)]; exact ⟨x, rfl, hx⟩
  · subst h
    rw [show compare a a = .eq from Int.compare_eq_eq.2 rfl, Int.min_self]
    simp only []
    split
    · exact ⟨_, rfl, hx⟩
    · exact ⟨_, rfl, hy⟩
  · rw [Int.compare_eq_gt.2 h, Int.min_eq_right (by omega)]; exact ⟨y, rfl, hy⟩
theorem f_max {x y : Nat} {a b : Int} (hx : D x a 1074) (hy : D y b 1074) : ∃ z, fmax x y = some z ∧ D z (max a b) 1074 := by
  unfold fmax
  rw [D_order hx hy]
  rcases Int.lt_trichotomy a b with h | h | h
  · rw [Int.compare_eq_lt.2 h, Int.max_eq_right (by omega)]; exact ⟨y, rfl, hy⟩
  · subst h
    rw [show compare a a = .eq from Int.compare_eq_eq.2 rfl, Int.max_self]
    simp only []
    split
    · exact ⟨_, rfl, hy⟩
    · exact ⟨_, rfl, hx⟩
  · rw [Int.compare_eq_gt.2 h, Int.max_eq_left (by omega)]; exact ⟨x, rfl, hx⟩

/-! #### least boxes -/
theorem ky_set {a : List Nat} {i j w : Nat} (h : i < a.length) : ky j (a.set i w) = if i = j then cv w else ky j a := by
  unfold ky
  simp only [List.getD, List.getElem?_set]
  by_cases e : i = j
  · subst e; simp [h]
  · simp [e]
theorem pg_set {m : Nat} {a : List Nat} {i w : Nat} {n : Int} (ha : Pg m a) (hw : D w n 1074) : Pg m (a.set i w) := ⟨by rw [List.length_set]; exact ha.1, fun x hx => by
  rcases List.mem_or_eq_of_mem_set hx with h | h
  · exact ha.2 x h
  · exact ⟨n, h ▸ hw⟩⟩
theorem ky_get {m i : Nat} {p : List Nat} (hp : Pg m p) (h : i < p.length) : D p[i] (ky i p) 1074 := by
  have e : p.getD i 0 = p[i] := by simp [List.getD, List.getElem?_eq_getElem h]
  unfold ky; rw [e]; exact cv_is (hp.2 _ (List.getElem_mem h))
/-- a box made wider by a point -/
def Wd (m : Nat) (u v p : List Nat) (y : List Nat × List Nat) : Prop := Pg m y.1 ∧ Pg m y.2 ∧ ∀ j, j < m → ky j y.1 = min (ky j u) (ky j p) ∧ ky j y.2 = max (ky j v) (ky j p)
theorem ext_is (k : Nat) {m : Nat} {p u v : List Nat} (hu : Pg m u) (hv : Pg m v) (hp : Pg m p) (hm : m < 1000) (hk : m < k) : ∃ y, kdtree_Point_Extend_v2_l1 p k (u, v, 0) = some y ∧ Wd m u v p y :=
  loop_inv (F := kdtree_Point_Extend_v2_l1 p) 0 (fun r w => ∃ (a b : List Nat) (i : Nat), w = (a, b, ((i : Nat) : Int)) ∧ i + r = m ∧ Pg m a ∧ Pg m b ∧ (∀ j, j < m → j < i → ky j a = min (ky j u) (ky j p) ∧ ky j b = max (ky j v) (ky j p)) ∧ ∀ j, i ≤ j → ky j a = ky j u ∧ ky j b = ky j v)
    (fun y => Wd m u v p y) (fun k r w _ hI => by
      obtain ⟨a, b, i, rfl, h1, h2, h3, h4, h5⟩ := hI
      by_cases hi : i < p.length
      · have hp1 := hp.1
        have ha1 := h2.1
        have hb1 := h3.1
        have d1 := mp_min (ky_get h2 (show i < a.length by omega)) (ky_get hp hi)
        have d2 := mp_max (ky_get h3 (show i < b.length by omega)) (ky_get hp hi)
        refine .inr ⟨r - 1, (a.set i (mpick true .lt a[i] p[i]), b.set i (mpick false .gt b[i] p[i]), ((i + 1 : Nat) : Int)), by omega, ⟨_, _, i + 1, rfl, by omega, pg_set h2 d1, pg_set h3 d2, fun j hj hji => ?_, fun j hj => ?_⟩, ?_⟩
        · rw [ky_set (by omega), ky_set (by omega)]
          by_cases e : i = j
          · subst e
            rw [if_pos rfl, if_pos rfl, cv_of d1, cv_of d2, (h5 i (Nat.le_refl _)).1, (h5 i (Nat.le_refl _)).2]
            exact ⟨rfl, rfl⟩
          · rw [if_neg e, if_neg e]; exact h4 j hj (by omega)
        · rw [ky_set (by omega), ky_set (by omega), if_neg (by omega), if_neg (by omega)]; exact h5 j (by omega)
        · simp only [kdtree_Point_Extend_v2_l1, kdtree_Point_Extend_v2_l1s, lt_true hi, br_true, idx_get hi, idx_get (show i < a.length by omega), idx_get (show i < b.length by omega), Option.bind_eq_bind, Option.bind_some, math_Min, math_Max, iadd_one (show i < 9223372036854775807 by omega), Int.toNat_natCast]
      · have hp1 := hp.1
        exact .inl ⟨(a, b), by simp only [kdtree_Point_Extend_v2_l1, kdtree_Point_Extend_v2_l1s, lt_false hi, br_false], h2, h3, fun j hj => h4 j hj (by omega)⟩) m (u, v, 0) k ⟨u, v, 0, rfl, by omega, hu, hv, fun j _ h => absurd h (Nat.not_lt_zero _), fun j _ => ⟨rfl, rfl⟩⟩ (by omega)
theorem ext_same (p : List Nat) : ∀ k v, kdtree_Point_Extend_l1 p k v = kdtree_Point_Extend_v2_l1 p k v := by
  intro k
  induction k with
  | zero => intro v; rfl
  | succ k ih =>
    intro v
    have : kdtree_Point_Extend_l1 p k = kdtree_Point_Extend_v2_l1 p k := funext ih
    show kdtree_Point_Extend_l1s p k (kdtree_Point_Extend_l1 p k) v.1 v.2.1 v.2.2 = kdtree_Point_Extend_v2_l1s p k (kdtree_Point_Extend_v2_l1 p k) v.1 v.2.1 v.2.2
    rw [this]; rfl
theorem extend1_is (k : Nat) {m : Nat} {p : List Nat} (hp : Pg m p) (hm : m < 1000) (hk : m < k) : ∃ y, kdtree_Point_Extend k p = some y ∧ Wd m p p p y := by
  obtain ⟨y, h1, h2⟩ := ext_is k hp hp hp hm hk
  have hl := hp.1
  unfold kdtree_Point_Extend
  rw [apd_row (by omega), sbind, sbind, ext_same, h1, sbind]
  exact ⟨_, rfl, h2⟩
theorem extend2_is (k : Nat) {m : Nat} {p u v : List Nat} (hu : Pg m u) (hv : Pg m v) (hp : Pg m p) (hm : m < 1000) (hk : m < k) : ∃ y, kdtree_Point_Extend_v2 k p u v = some y ∧ Wd m u v p y := by
  obtain ⟨y, h1, h2⟩ := ext_is k hu hv hp hm hk
  unfold kdtree_Point_Extend_v2
  rw [h1, sbind]
  exact ⟨_, rfl, h2⟩
theorem least2_is (k : Nat) {m : Nat} {p u v : List Nat} (hu : Pg m u) (hv : Pg m v) (hp : Pg m p) (hm : m < 1000) (hk : m < k) : ∃ y, spec_LeastBox_l2 p k (u, v, 0) = some y ∧ Wd m u v p y :=
  loop_inv (F := spec_LeastBox_l2 p) 0 (fun r w => ∃ (a b : List Nat) (i : Nat), w = (a, b, ((i : Nat) : Int)) ∧ i + r = m ∧ Pg m a ∧ Pg m b ∧ (∀ j, j < m → j < i → ky j a = min (ky j u) (ky j p) ∧ ky j b = max (ky j v) (ky j p)) ∧ ∀ j, i ≤ j → ky j a = ky j u ∧ ky j b = ky j v)
    (fun y => Wd m u v p y) (fun k r w _ hI => by
      obtain ⟨a, b, i, rfl, h1, h2, h3, h4, h5⟩ := hI
      by_cases hi : i < p.length
      · have hp1 := hp.1
        have ha1 := h2.1
        have hb1 := h3.1
        obtain ⟨z1, q1, d1⟩ := f_min (ky_get h2 (show i < a.length by omega)) (ky_get hp hi)
        obtain ⟨z2, q2, d2⟩ := f_max (ky_get h3 (show i < b.length by omega)) (ky_get hp hi)
        refine .inr ⟨r - 1, (a.set i z1, b.set i z2, ((i + 1 : Nat) : Int)), by omega, ⟨_, _, i + 1, rfl, by omega, pg_set h2 d1, pg_set h3 d2, fun j hj hji => ?_, fun j hj => ?_⟩, ?_⟩
        · rw [ky_set (by omega), ky_set (by omega)]
          by_cases e : i = j
          · subst e
            rw [if_pos rfl, if_pos rfl, cv_of d1, cv_of d2, (h5 i (Nat.le_refl _)).1, (h5 i (Nat.le_refl _)).2]
            exact ⟨rfl, rfl⟩
          · rw [if_neg e, if_neg e]; exact h4 j hj (by omega)
        · rw [ky_set (by omega), ky_set (by omega), if_neg (by omega), if_neg (by omega)]; exact h5 j (by omega)
        · simp only [spec_LeastBox_l2, spec_LeastBox_l2s, lt_true hi, br_true, idx_get hi, idx_get (show i < a.length by omega), idx_get (show i < b.length by omega), Option.bind_eq_bind, Option.bind_some, q1, q2, iadd_one (show i < 9223372036854775807 by omega), Int.toNat_natCast]
      · have hp1 := hp.1
        exact .inl ⟨(a, b), by simp only [spec_LeastBox_l2, spec_LeastBox_l2s, lt_false hi, br_false], h2, h3, fun j hj => h4 j hj (by omega)⟩) m (u, v, 0) k ⟨u, v, 0, rfl, by omega, hu, hv, fun j _ h => absurd h (Nat.not_lt_zero _), fun j _ => ⟨rfl, rfl⟩⟩ (by omega)

/-- the least box about some points -/
def LB (m : Nat) (P : List (List Nat)) (u v : List Nat) : Prop := Pg m u ∧ Pg m v ∧ ∀ j, j < m → (∀ p ∈ P, ky j u ≤ ky j p ∧ ky j p ≤ ky j v) ∧ (∃ p ∈ P, ky j u = ky j p) ∧ ∃ p ∈ P, ky j v = ky j p
theorem LB.mem {m : Nat} {P Q : List (List Nat)} {u v : List Nat} (h : LB m P u v) (e : ∀ p, p ∈ P ↔ p ∈ Q) : LB m Q u v := ⟨h.1, h.2.1, fun j hj => by
  obtain ⟨a, ⟨p, b1, b2⟩, ⟨q, c1, c2⟩⟩ := h.2.2 j hj
  exact ⟨fun p hp => a p ((e p).2 hp), ⟨p, (e p).1 b1, b2⟩, ⟨q, (e q).1 c1, c2⟩⟩⟩
theorem LB.one {m : Nat} {p : List Nat} {y : List Nat × List Nat} (h : Wd m p p p y) : LB m [p] y.1 y.2 := ⟨h.1, h.2.1, fun j hj => by
  obtain ⟨a, b⟩ := h.2.2 j hj
  rw [Int.min_self] at a
  rw [Int.max_self] at b
  exact ⟨fun q hq => by rw [List.mem_singleton.1 hq]; omega, ⟨p, List.mem_singleton.2 rfl, a⟩, ⟨p, List.mem_singleton.2 rfl, b⟩⟩⟩
theorem LB.cons {m : Nat} {P : List (List Nat)} {u v p : List Nat} {y : List Nat × List Nat} (h : LB m P u v) (w : Wd m u v p y) : LB m (p :: P) y.1 y.2 := ⟨w.1, w.2.1, fun j hj => by
  obtain ⟨a, b⟩ := w.2.2 j hj
  obtain ⟨c, ⟨q, d1, d2⟩, ⟨r, e1, e2⟩⟩ := h.2.2 j hj
  refine ⟨fun x hx => ?_, ?_, ?_⟩
  · rcases List.mem_cons.1 hx with rfl | hx
    · omega
    · have := c x hx; omega
  · by_cases hh : ky j u ≤ ky j p
    · exact ⟨q, List.mem_cons_of_mem _ d1, by omega⟩
    · exact ⟨p, List.mem_cons_self, by omega⟩
  · by_cases hh : ky j p ≤ ky j v
    · exact ⟨r, List.mem_cons_of_mem _ e1, by omega⟩
    · exact ⟨p, List.mem_cons_self, by omega⟩⟩
theorem cls_eq {m : Nat} {a b : List Nat} (ha : Pg m a) (hb : Pg m b) (h : ∀ j, j < m → ky j a = ky j b) : cls a = cls b := by
  have h1 := ha.1
  have h2 := hb.1
  refine List.ext_getElem (by simp [cls, h1, h2]) fun j q1 q2 => ?_
  simp only [cls, List.length_map] at q1 q2
  simp only [cls, List.getElem_map]
  have := h j (by omega)
  unfold ky at this
  simpa [List.getD, List.getElem?_eq_getElem q1, List.getElem?_eq_getElem q2] using this
theorem LB.same {m : Nat} {P : List (List Nat)} {u v u' v' : List Nat} (h : LB m P u v) (k : LB m P u' v') : cls u = cls u' ∧ cls v = cls v' := by
  constructor
  · refine cls_eq h.1 k.1 fun j hj => ?_
    obtain ⟨a, ⟨q, d1, d2⟩, _⟩ := h.2.2 j hj
    obtain ⟨a', ⟨q', d1', d2'⟩, _⟩ := k.2.2 j hj
    have := (a q' d1').1
    have := (a' q d1).1
    omega
  · refine cls_eq h.2.1 k.2.1 fun j hj => ?_
    obtain ⟨a, _, ⟨q, d1, d2⟩⟩ := h.2.2 j hj
    obtain ⟨a', _, ⟨q', d1', d2'⟩⟩ := k.2.2 j hj
    have := (a q' d1').2
    have := (a' q d1).2
    omega
theorem least_is (k : Nat) {m : Nat} {P : List (List Nat)} (hP : ∀ p ∈ P, Pg m p) (h0 : 0 < P.length) (hm : m < 1000) (hl : P.length < 1000) (hk : P.length + m + 3 < k) : ∃ y, spec_LeastBox k P = some y ∧ LB m P y.1 y.2 := by
  unfold spec_LeastBox
  obtain ⟨y, e1, e2⟩ := loop_inv (F := spec_LeastBox_l3 P) (m + 1) (fun r w => ∃ (a b : List Nat) (i : Nat), w = (a, b, ((i : Nat) : Int)) ∧ i + r = P.length ∧ (i = 0 → a = [] ∧ b = []) ∧ (0 < i → LB m (P.take i) a b))
    (fun y => LB m P y.1 y.2) (fun k r w hk hI => by
      obtain ⟨a, b, i, rfl, h1, h2, h3⟩ := hI
      by_cases hi : i < P.length
      · have hg := hP _ (List.getElem_mem hi)
        have hgl := hg.1
        have tk : P.take (i + 1) = P.take i ++ [P[i]] := List.take_succ_eq_append_getElem hi
        refine .inr ?_
        by_cases hz : i = 0
        · subst hz
          obtain ⟨rfl, rfl⟩ := h2 rfl
          obtain ⟨y, q1, q2⟩ := least2_is k hg hg hg hm (by omega)
          refine ⟨r - 1, (y.1, y.2, ((0 + 1 : Nat) : Int)), by omega, ⟨_, _, 1, rfl, by omega, fun h => by omega, fun _ => ?_⟩, ?_⟩
          · rw [tk]; exact LB.one q2
          · simp only [spec_LeastBox_l3, spec_LeastBox_l3s, lt_true hi, br_true, idx_get hi, Option.bind_eq_bind, Option.bind_some, decide_eq_true (show ((0 : Nat) : Int) = 0 from rfl), apd_row (show P[0].length ≤ 1000 by omega), spec_LeastBox_j1, q1, iadd_one (show 0 < 9223372036854775807 by omega)]
        · have hL := h3 (by omega)
          obtain ⟨y, q1, q2⟩ := least2_is k hL.1 hL.2.1 hg hm (by omega)
          refine ⟨r - 1, (y.1, y.2, ((i + 1 : Nat) : Int)), by omega, ⟨_, _, i + 1, rfl, by omega, fun h => by omega, fun _ => ?_⟩, ?_⟩
          · rw [tk]; exact (hL.cons q2).mem fun p => by rw [List.mem_append, List.mem_singleton, List.mem_cons, or_comm]
          · simp only [spec_LeastBox_l3, spec_LeastBox_l3s, lt_true hi, br_true, br_false, idx_get hi, Option.bind_eq_bind, Option.bind_some, decide_eq_false (show ¬ ((i : Nat) : Int) = 0 by omega), spec_LeastBox_j1, q1, iadd_one (show i < 9223372036854775807 by omega)]
      · have : i = P.length := by omega
        subst this
        exact .inl ⟨(a, b), by simp only [spec_LeastBox_l3, spec_LeastBox_l3s, lt_false hi, br_false], by have := h3 h0; rwa [List.take_length] at this⟩) P.length ([], [], 0) k ⟨[], [], 0, rfl, by omega, fun _ => ⟨rfl, rfl⟩, fun h => by omega⟩ (by omega)
  rw [e1, sbind]
  exact ⟨_, rfl, e2⟩
end Go.Proofs.Ytjgpiealnfbkcaa
