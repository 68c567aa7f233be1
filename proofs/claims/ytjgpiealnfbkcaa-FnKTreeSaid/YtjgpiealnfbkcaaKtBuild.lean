/-
  The tree that is built of points. Plain; ours.
-/
import Derived.Test.YtjgpiealnfbkcaaKtPart
namespace Go.Proofs.Ytjgpiealnfbkcaa
open Go.Sx
set_option linter.unusedVariables false
set_option linter.unusedSimpArgs false
set_option maxRecDepth 100000

def pts : G66 → List (List Nat)
  | .c0 => []
  | .c1 (.c0 p) _ a b _ => pts a ++ p :: pts b
/-- a box of m numbers, or none -/
def Eb (m : Nat) : G118 → Prop
  | .c0 => True
  | .c1 (.c0 u) (.c0 v) => u.length = m ∧ v.length = m
/-- a tree along the dimensions in turn -/
def Kg (m : Nat) : G66 → Nat → Prop
  | .c0, _ => True
  | .c1 (.c0 p) pl a b e, q => pl = (q : Int) ∧ q < m ∧ Pg m p ∧ (∀ x ∈ pts a, ky q x ≤ ky q p) ∧ (∀ x ∈ pts b, ky q p < ky q x) ∧ Kg m a ((q + 1) % m) ∧ Kg m b ((q + 1) % m) ∧ Eb m e

theorem extend_loop (k : Nat) {p u v : List Nat} (hu : u.length = p.length) (hv : v.length = p.length) (hp : p.length < 1000) (hk : p.length < k) :
    ∃ y, kdtree_Point_Extend_v2_l1 p k (u, v, 0) = some y ∧ y.1.length = p.length ∧ y.2.length = p.length :=
  loop_inv (F := kdtree_Point_Extend_v2_l1 p) 0 (fun r v => ∃ (a b : List Nat) (i : Nat), v = (a, b, ((i : Nat) : Int)) ∧ a.length = p.length ∧ b.length = p.length ∧ i + r = p.length)
    (fun y => y.1.length = p.length ∧ y.2.length = p.length) (fun k r v _ hI => by
      obtain ⟨a, b, i, rfl, h1, h2, h3⟩ := hI
      by_cases hi : i < p.length
      · refine .inr ⟨r - 1, (a.set i (mpick true .lt a[i] p[i]), b.set i (mpick false .gt b[i] p[i]), ((i + 1 : Nat) : Int)), by omega, ⟨_, _, i + 1, rfl, by simpa using h1, by simpa using h2, by omega⟩, ?_⟩
        simp only [kdtree_Point_Extend_v2_l1, kdtree_Point_Extend_v2_l1s, lt_true hi, br_true, idx_get hi, idx_get (show i < a.length by omega), idx_get (show i < b.length by omega), Option.bind_eq_bind, Option.bind_some, math_Min, math_Max, iadd_one (show i < 9223372036854775807 by omega), Int.toNat_natCast]
      · exact .inl ⟨(a, b), by simp only [kdtree_Point_Extend_v2_l1, kdtree_Point_Extend_v2_l1s, lt_false hi, br_false], h1, h2⟩) p.length (u, v, 0) k ⟨u, v, 0, rfl, hu, hv, by omega⟩ (by omega)
theorem extend_same (p : List Nat) : ∀ k v, kdtree_Point_Extend_l1 p k v = kdtree_Point_Extend_v2_l1 p k v := by
  intro k
  induction k with
  | zero => intro v; rfl
  | succ k ih =>
    intro v
    have : kdtree_Point_Extend_l1 p k = kdtree_Point_Extend_v2_l1 p k := funext ih
    show kdtree_Point_Extend_l1s p k (kdtree_Point_Extend_l1 p k) v.1 v.2.1 v.2.2 = kdtree_Point_Extend_v2_l1s p k (kdtree_Point_Extend_v2_l1 p k) v.1 v.2.1 v.2.2
    rw [this]; rfl
theorem apd_row {p : List Nat} (h : p.length ≤ 1000) : apd 8 [] p = some p := by rw [apd_some (by simp; omega) (by simp; omega)]; rfl
theorem bounds_is (k : Nat) {m : Nat} {A W B : List (List Nat)} {lo n : Nat} (ha : A.length = lo) (hw : W.length = n) (hn : n < 1000000) (hg : ∀ p ∈ W, Pg m p) (hm : m < 1000) (hk : n + m + 1 < k) :
    ∃ e, kdtree_DoorPoints_Bounds k (A ++ W ++ B) lo n = some (A ++ W ++ B, e) ∧ Eb m e := by
  have g : ∀ i, i < n → Pg m (W.getD i []) := fun i hi => by rw [getD_row (by omega)]; exact hg _ (List.getElem_mem _)
  unfold kdtree_DoorPoints_Bounds
  by_cases h0 : 0 < n
  · rw [decide_eq_true (by omega), br_true]
    have e0 := win_at (B := B) ha hw h0
    have g0 := (g 0 h0).1
    rw [show (0 : Int) = ((0 : Nat) : Int) from rfl, e0, sbind]
    unfold kdtree_Point_Extend
    rw [apd_row (by omega), sbind, sbind]
    obtain ⟨y, h1, h2, h3⟩ := extend_loop k (p := W.getD 0 []) rfl rfl (by omega) (by omega)
    rw [extend_same, h1, sbind, sbind]
    obtain ⟨z, q1, q2, q3⟩ := loop_inv (F := kdtree_DoorPoints_Bounds_l1 n (A ++ W ++ B) lo) (m + 1) (fun r v => ∃ (a b : List Nat) (i : Nat), v = (a, b, ((i : Nat) : Int)) ∧ a.length = m ∧ b.length = m ∧ i + r = n)
      (fun y => y.1.length = m ∧ y.2.length = m) (fun k r v hk hI => by
        obtain ⟨a, b, i, rfl, h1, h2, h3⟩ := hI
        by_cases hi : i < n
        · have gi := (g i hi).1
          obtain ⟨y, u1, u2, u3⟩ := extend_loop k (p := W.getD i []) (u := a) (v := b) (by omega) (by omega) (by omega) (by omega)
          refine .inr ⟨r - 1, (y.1, y.2, ((i + 1 : Nat) : Int)), by omega, ⟨y.1, y.2, i + 1, rfl, by omega, by omega, by omega⟩, ?_⟩
          simp only [kdtree_DoorPoints_Bounds_l1, kdtree_DoorPoints_Bounds_l1s, lt_true hi, br_true, win_at ha hw hi, Option.bind_eq_bind, Option.bind_some, kdtree_Point_Extend_v2, u1, iadd_one (show i < 9223372036854775807 by omega)]
        · exact .inl ⟨(a, b), by simp only [kdtree_DoorPoints_Bounds_l1, kdtree_DoorPoints_Bounds_l1s, lt_false hi, br_false], h1, h2⟩) (n - 1) (y.1, y.2, 1) k ⟨y.1, y.2, 1, rfl, by omega, by omega, by omega⟩ (by omega)
    rw [q1, sbind]
    exact ⟨_, rfl, q2, q3⟩
  · rw [decide_eq_false (by omega), br_false]
    exact ⟨_, rfl, trivial⟩

theorem half_is {n : Nat} (h : n < 1000000) : iquo .i64 ((n : Nat) : Int) 2 = some ((n / 2 : Nat) : Int) := by
  unfold iquo
  rw [if_neg (by omega)]
  have : ((n : Nat) : Int).tdiv 2 = ((n / 2 : Nat) : Int) := by rw [Int.tdiv_eq_ediv_of_nonneg (by omega)]; omega
  rw [this, wrap_i64 (by omega) (by omega)]
theorem next_is {q m : Nat} (hm : 0 < m) (hq : q < 1000) : irem (iadd .i64 (q : Int) 1) (m : Int) = some (((q + 1) % m : Nat) : Int) := by
  unfold irem
  rw [if_neg (by omega), iadd_one (by omega), Int.tmod_eq_emod_of_nonneg (by omega)]
  rfl

/-- the middle: parted, looked at, and what is on its sides -/
theorem pivot_is (k : Nat) {m q : Nat} {A W B : List (List Nat)} {lo n : Nat} (ha : A.length = lo) (hw : W.length = n) (h0 : 0 < n) (hn : n < 1000000) (hg : ∀ p ∈ W, Pg m p) (hq : q < m) (hk : n < k) :
    ∃ (X : List (List Nat)) (p : List Nat) (Y : List (List Nat)), kdtree_DoorPoints_Pivot k (A ++ W ++ B) lo n (q : Int) = some (A ++ (X ++ p :: Y) ++ B, ((X.length : Nat) : Int)) ∧ (X ++ p :: Y).Perm W ∧ X.length < n ∧ n = X.length + 1 + Y.length ∧
      (∀ x ∈ X, ky q x ≤ ky q p) ∧ (∀ x ∈ Y, ky q p < ky q x) ∧ Pg m p ∧ kdtree_DoorPoints_Index k (A ++ (X ++ p :: Y) ++ B) lo n ((X.length : Nat) : Int) = some (A ++ (X ++ p :: Y) ++ B, p) := by
  obtain ⟨V, c, h1, h2, h3, h4, h5⟩ := part_is k (B := B) ha hw (show n / 2 < n by omega) hn hg hq hk
  have hV : V.length = n := by rw [h2.length_eq, hw]
  have hc : c < V.length := by omega
  have e : V.take c ++ V.getD c [] :: V.drop (c + 1) = V := by rw [getD_row hc]; simp
  have el : (V.take c).length = c := by simp; omega
  refine ⟨V.take c, V.getD c [], V.drop (c + 1), ?_, by rw [e]; exact h2, by omega, by simp; omega, fun x hx => ?_, fun x hx => ?_, ?_, ?_⟩
  · unfold kdtree_DoorPoints_Pivot
    rw [half_is hn, sbind, h1, sbind, e, el]
  · obtain ⟨i, hi, rfl⟩ := List.mem_iff_getElem.1 hx
    have := h4 i (by omega)
    rw [getD_row (by omega)] at this
    simpa using this
  · obtain ⟨i, hi, rfl⟩ := List.mem_iff_getElem.1 hx
    have hi' : c + 1 + i < V.length := by simp at hi; omega
    have := h5 (c + 1 + i) (by omega) (by omega)
    rw [getD_row hi'] at this
    simpa using this
  · rw [getD_row hc]; exact hg _ (h2.mem_iff.1 (List.getElem_mem _))
  · unfold kdtree_DoorPoints_Index
    rw [e, el, win_at ha hV h3, sbind]

theorem vct_is {n a b : Nat} (h1 : a ≤ b) (h2 : b ≤ n) : vct n (a : Int) (b : Int) = some (b - a) := by
  unfold vct
  rw [if_pos ⟨by omega, by omega, by omega⟩]
  congr 1; omega

theorem build_all (m : Nat) (hm : 0 < m) (hm2 : m < 100) : ∀ (k : Nat) (A W B : List (List Nat)) (lo n q : Nat), A.length = lo → W.length = n → n < 1000 → (∀ p ∈ W, Pg m p) → q < m → n + m + 5 < k →
    (∃ V T, kdtree_buildBounded k (A ++ W ++ B) lo n (q : Int) true = some (A ++ V ++ B, T) ∧ V.Perm W ∧ pts T = V ∧ Kg m T q) ∧
    (∃ V T, kdtree_build k (A ++ W ++ B) lo n (q : Int) = some (A ++ V ++ B, T) ∧ V.Perm W ∧ pts T = V ∧ Kg m T q) := by
  intro k
  induction k with
  | zero => intro A W B lo n q ha hw hn hg hq hk; omega
  | succ k ih =>
    intro A W B lo n q ha hw hn hg hq hk
    by_cases h0 : n = 0
    · have hW : W = [] := List.length_eq_zero_iff.1 (by omega)
      subst h0; subst hW
      exact ⟨⟨[], .c0, rfl, .nil, rfl, trivial⟩, ⟨[], .c0, rfl, .nil, rfl, trivial⟩⟩
    · obtain ⟨X, p, Y, h1, h2, h3, h4, h5, h6, h7, h8⟩ := pivot_is k (B := B) ha hw (by omega) (by omega) hg hq (by omega)
      have hgX : ∀ x ∈ X, Pg m x := fun x hx => hg x (h2.mem_iff.1 (by simp [hx]))
      have hgY : ∀ x ∈ Y, Pg m x := fun x hx => hg x (h2.mem_iff.1 (by simp [hx]))
      have hq' : (q + 1) % m < m := Nat.mod_lt _ hm
      obtain ⟨e, b1, b2⟩ := bounds_is k (W := X ++ p :: Y) (B := B) ha (by simp; omega) (by omega) (fun x hx => hg x (h2.mem_iff.1 hx)) (by omega) (show n + m + 1 < k by omega)
      have s1 : kdtree_DoorPoints_Slice k (A ++ (X ++ p :: Y) ++ B) lo n 0 ((X.length : Nat) : Int) = some (A ++ X ++ (p :: Y ++ B), lo, X.length) := by
        unfold kdtree_DoorPoints_Slice
        rw [show (0 : Int) = ((0 : Nat) : Int) from rfl, vct_is (Nat.zero_le _) (by omega), sbind]
        simp
      have s2 : ∀ V, V.length = X.length → kdtree_DoorPoints_Slice k (A ++ V ++ (p :: Y ++ B)) lo n (iadd .i64 ((X.length : Nat) : Int) 1) ((n : Nat) : Int) = some ((A ++ V ++ [p]) ++ Y ++ B, lo + (X.length + 1), Y.length) := by
        intro V hV
        unfold kdtree_DoorPoints_Slice
        rw [iadd_one (by omega), vct_is (by omega) (by omega), sbind]
        simp
        omega
      have pm : ∀ {V1 V2 : List (List Nat)}, V1.Perm X → V2.Perm Y → (V1 ++ p :: V2).Perm W := fun v1 v2 => (v1.append (v2.cons p)).trans h2
      constructor
      · obtain ⟨⟨V1, T1, t1, v1, w1, g1⟩, _⟩ := ih A X (p :: Y ++ B) lo X.length ((q + 1) % m) ha rfl (by omega) hgX hq' (by omega)
        obtain ⟨⟨V2, T2, t2, v2, w2, g2⟩, _⟩ := ih (A ++ V1 ++ [p]) Y B (lo + (X.length + 1)) Y.length ((q + 1) % m) (by simp [v1.length_eq]; omega) rfl (by omega) hgY hq' (by omega)
        refine ⟨V1 ++ p :: V2, .c1 (.c0 p) (q : Int) T1 T2 e, ?_, pm v1 v2, by rw [pts, w1, w2], rfl, hq, h7, fun x hx => h5 x (v1.mem_iff.1 (w1 ▸ hx)), fun x hx => h6 x (v2.mem_iff.1 (w2 ▸ hx)), g1, g2, b2⟩
        show kdtree_buildBounded_b (kdtree_buildBounded k) k (A ++ W ++ B) lo n (q : Int) true = _
        unfold kdtree_buildBounded_b kdtree_DoorPoints_Len
        rw [sbind]
        simp only []
        rw [decide_eq_false (show ¬ ((n : Nat) : Int) = 0 by omega), br_false, h1, sbind]
        simp only []
        rw [h8, sbind]
        simp only [kdtree_Point_Dims]
        rw [sbind, h7.1, next_is hm (by omega), sbind, b1, sbind]
        simp only []
        rw [s1, sbind]
        simp only []
        rw [t1, sbind]
        simp only []
        rw [sbind]
        simp only []
        rw [s2 V1 v1.length_eq, sbind]
        simp only []
        rw [t2, sbind]
        simp
      · obtain ⟨_, ⟨V1, T1, t1, v1, w1, g1⟩⟩ := ih A X (p :: Y ++ B) lo X.length ((q + 1) % m) ha rfl (by omega) hgX hq' (by omega)
        obtain ⟨_, ⟨V2, T2, t2, v2, w2, g2⟩⟩ := ih (A ++ V1 ++ [p]) Y B (lo + (X.length + 1)) Y.length ((q + 1) % m) (by simp [v1.length_eq]; omega) rfl (by omega) hgY hq' (by omega)
        refine ⟨V1 ++ p :: V2, .c1 (.c0 p) (q : Int) T1 T2 .c0, ?_, pm v1 v2, by rw [pts, w1, w2], rfl, hq, h7, fun x hx => h5 x (v1.mem_iff.1 (w1 ▸ hx)), fun x hx => h6 x (v2.mem_iff.1 (w2 ▸ hx)), g1, g2, trivial⟩
        show kdtree_build_b (kdtree_build k) k (A ++ W ++ B) lo n (q : Int) = _
        unfold kdtree_build_b kdtree_DoorPoints_Len
        rw [sbind]
        simp only []
        rw [decide_eq_false (show ¬ ((n : Nat) : Int) = 0 by omega), br_false, h1, sbind]
        simp only []
        rw [h8, sbind]
        simp only [kdtree_Point_Dims]
        rw [sbind, h7.1, next_is hm (by omega), sbind]
        rw [s1, sbind]
        simp only []
        rw [t1, sbind]
        simp only []
        rw [sbind]
        simp only []
        rw [s2 V1 v1.length_eq, sbind]
        simp only []
        rw [t2, sbind]
        simp

/-- the tree of a list -/
theorem new_is (k : Nat) (m : Nat) (hm : 0 < m) (hm2 : m < 100) (P : List (List Nat)) (bo : Bool) (hl : P.length < 1000) (hg : ∀ p ∈ P, Pg m p) (hk : P.length + m + 5 < k) :
    ∃ V T c, kdtree_New k P 0 P.length bo = some (V, T, c) ∧ (pts T).Perm P ∧ Kg m T 0 := by
  obtain ⟨⟨V, T, t1, v1, w1, g1⟩, ⟨V', T', t2, v2, w2, g2⟩⟩ := build_all m hm hm2 k [] P [] 0 P.length 0 rfl rfl hl hg hm hk
  simp only [List.nil_append, List.append_nil] at t1 t2
  unfold kdtree_New
  cases bo with
  | true =>
    rw [br_true]
    have t1' : kdtree_buildBounded k P 0 P.length 0 true = some (V, T) := t1
    rw [t1', sbind]
    exact ⟨V, T, _, rfl, by rw [w1]; exact v1, g1⟩
  | false =>
    rw [br_false]
    have t2' : kdtree_build k P 0 P.length 0 = some (V', T') := t2
    rw [t2', sbind]
    exact ⟨V', T', _, rfl, by rw [w2]; exact v2, g2⟩
end Go.Proofs.Ytjgpiealnfbkcaa
