/-
  How two segments meet, as the program's rough way tells it. Ours.
-/
import Derived.Test.YthobbfpoooommaaGreatLmCross
import Derived.Test.YthobbfpoooommaaGreatLmQuo
import Derived.Test.YthobbfpoooommaaGreatPlaneTo
namespace Go.Proofs.YthobbfpoooommaaGreat
open Go.Sx
open Ieee (signed)
set_option linter.unusedVariables false
set_option linter.unusedSimpArgs false
set_option maxRecDepth 100000

theorem i0 {α : Type} (p q : α) : idx [p, q] 0 = some p := rfl
theorem i1 {α : Type} (p q : α) : idx [p, q] 1 = some q := rfl
theorem pr_le {a b : Int} {m n : Nat} (ha : a.natAbs ≤ m) (hb : b.natAbs ≤ n) : (a * b).natAbs ≤ m * n := by
  rw [Int.natAbs_mul]; exact Nat.mul_le_mul ha hb
theorem sub_le1 {a b : Int} (ha : a.natAbs ≤ 8192) (hb : b.natAbs ≤ 8192) : (a - b).natAbs ≤ 16384 := by omega
theorem sub_le2 {a b : Int} (ha : a.natAbs ≤ 67108864) (hb : b.natAbs ≤ 67108864) : (a - b).natAbs ≤ 134217728 := by omega
theorem add_le2 {a b : Int} (ha : a.natAbs ≤ 134217728) (hb : b.natAbs ≤ 134217728) : (a + b).natAbs ≤ 268435456 := by omega
theorem add_le3 {a b : Int} (ha : a.natAbs ≤ 268435456) (hb : b.natAbs ≤ 134217728) : (a + b).natAbs ≤ 402653184 := by omega
theorem sub_le4 {a b : Int} (ha : a.natAbs ≤ 268435456) (hb : b.natAbs ≤ 268435456) : (a - b).natAbs ≤ 536870912 := by omega
theorem sub_le5 {a b : Int} (ha : a.natAbs ≤ 2199023255552) (hb : b.natAbs ≤ 2199023255552) : (a - b).natAbs ≤ 4398046511104 := by omega
structure Wd (x y : Nat) (p : Int × Int) : Prop where
  lx : x < 2 ^ 64
  ly : y < 2 ^ 64
  dx : D x p.1 1074
  dy : D y p.2 1074
  bx : p.1.natAbs ≤ 8192
  by_ : p.2.natAbs ≤ 8192
theorem line_is {a0 a1 b0 b1 : Nat} {A B : Int × Int} (ha : Wd a0 a1 A) (hb : Wd b0 b1 B) :
    ∃ u v m n w, fsub b1 a1 = some u ∧ fsub a0 b0 = some v ∧ fmul b0 a1 = some m ∧ fmul a0 b1 = some n ∧ fsub m n = some w ∧ D u (B.2 - A.2) 1074 ∧ D v (A.1 - B.1) 1074 ∧ D w (B.1 * A.2 - A.1 * B.2) 1074 ∧
      (B.2 - A.2).natAbs ≤ 16384 ∧ (A.1 - B.1).natAbs ≤ 16384 ∧ (B.1 * A.2 - A.1 * B.2).natAbs ≤ 134217728 := by
  have b1' := sub_le1 hb.by_ ha.by_
  have b2' := sub_le1 ha.bx hb.bx
  have b3 := pr_le hb.bx ha.by_
  have b4 := pr_le ha.bx hb.by_
  have b5 := sub_le2 b3 b4
  obtain ⟨u, e1, d1⟩ := D_sub hb.dy ha.dy rfl (by omega) (by decide)
  obtain ⟨v, e2, d2⟩ := D_sub ha.dx hb.dx rfl (by omega) (by decide)
  obtain ⟨m, e3, d3⟩ := D_mul (u := 1074) hb.dx ha.dy rfl rfl (by decide) (by omega) (by decide)
  obtain ⟨n, e4, d4⟩ := D_mul (u := 1074) ha.dx hb.dy rfl rfl (by decide) (by omega) (by decide)
  obtain ⟨w, e5, d5⟩ := D_sub d3 d4 rfl (by omega) (by decide)
  exact ⟨u, v, m, n, w, e1, e2, e3, e4, e5, d1, d2, d5, b1', b2', b5⟩
theorem side_is {u v w p0 p1 : Nat} {A B P : Int × Int} (hp : Wd p0 p1 P) (du : D u (B.2 - A.2) 1074) (dv : D v (A.1 - B.1) 1074) (dw : D w (B.1 * A.2 - A.1 * B.2) 1074)
    (bu : (B.2 - A.2).natAbs ≤ 16384) (bv : (A.1 - B.1).natAbs ≤ 16384) (bw : (B.1 * A.2 - A.1 * B.2).natAbs ≤ 134217728) :
    ∃ m n s z, fmul u p0 = some m ∧ fmul v p1 = some n ∧ fadd m n = some s ∧ fadd s w = some z ∧ D z (-(orn A B P)) 1074 := by
  have b1 := pr_le bu hp.bx
  have b2 := pr_le bv hp.by_
  have b3 := add_le2 b1 b2
  have b4 := add_le3 b3 bw
  obtain ⟨m, e1, d1⟩ := D_mul (u := 1074) du hp.dx rfl rfl (by decide) (by omega) (by decide)
  obtain ⟨n, e2, d2⟩ := D_mul (u := 1074) dv hp.dy rfl rfl (by decide) (by omega) (by decide)
  obtain ⟨s, e3, d3⟩ := D_sum d1 d2 rfl (by omega) (by decide)
  obtain ⟨z, e4, d4⟩ := D_sum d3 dw rfl (by omega) (by decide)
  refine ⟨m, n, s, z, e1, e2, e3, e4, ?_⟩
  have e : (B.2 - A.2) * P.1 + (A.1 - B.1) * P.2 + (B.1 * A.2 - A.1 * B.2) = -(orn A B P) := by unfold orn; grind
  rw [← e]; exact d4
theorem same_is {k x y : Nat} {p q : Int} (dx : D x p 1074) (dy : D y q 1074) : inner_IsSameSignAndNonZero k x y = some (decide (0 < p * q)) := by
  have z := D_zero 1074
  unfold inner_IsSameSignAndNonZero
  rw [D_eq dx z, D_eq dy z]
  unfold inner_IsSameSignAndNonZero_j1
  rw [D_lt dx z, D_lt dy z]
  unfold inner_IsSameSignAndNonZero_j2
  rw [D_gt dx z, D_gt dy z]
  have key : 0 < p * q ↔ (0 < p ∧ 0 < q) ∨ (p < 0 ∧ q < 0) := by
    have := @mul_nn (-p) q
    rw [Int.neg_mul] at this
    omega
  by_cases h1 : p = 0
  · rw [decide_eq_true h1, br_true, br_true, decide_eq_false (by rw [key]; omega)]
  rw [decide_eq_false h1, br_false]
  by_cases h2 : q = 0
  · rw [decide_eq_true h2, br_true, decide_eq_false (by rw [key]; omega)]
  rw [decide_eq_false h2, br_false]
  by_cases h3 : p < 0
  · rw [decide_eq_true h3, br_true]
    by_cases h4 : q < 0
    · rw [decide_eq_true h4, br_true, decide_eq_true (by rw [key]; omega)]; rfl
    · rw [decide_eq_false h4, br_false, decide_eq_false (show ¬ 0 < p by omega), br_false, decide_eq_false (by rw [key]; omega)]; rfl
  · rw [decide_eq_false h3, br_false, br_false, decide_eq_true (show 0 < p by omega), br_true]
    by_cases h4 : 0 < q
    · rw [decide_eq_true h4, decide_eq_true (by rw [key]; omega)]; rfl
    · rw [decide_eq_false h4, decide_eq_false (by rw [key]; omega)]; rfl
theorem equal_loop (x y p q : Nat) : ∀ (n k i : Nat), 2 - i = n → n < k → i ≤ 2 → ∃ r, gogeom_Coord_Equal_l1 2 [x, y] [p, q] k (i : Int) = some r := by
  intro n
  induction n with
  | zero =>
    intro k i hn hk hi
    obtain ⟨k, rfl⟩ : ∃ j, k = j + 1 := ⟨k - 1, by omega⟩
    refine ⟨.inr (), ?_⟩
    simp only [gogeom_Coord_Equal_l1, gogeom_Coord_Equal_l1s]
    rw [decide_eq_false (by show ¬ (i : Int) < 2; omega), br_false]
  | succ n ih =>
    intro k i hn hk hi
    obtain ⟨k, rfl⟩ : ∃ j, k = j + 1 := ⟨k - 1, by omega⟩
    obtain ⟨r, hr⟩ := ih k (i + 1) (by omega) (by omega) (by omega)
    obtain ⟨a, e1⟩ : ∃ a, idx [x, y] (i : Int) = some a := ⟨_, idx_get (by simp; omega)⟩
    obtain ⟨b, e2⟩ : ∃ b, idx [p, q] (i : Int) = some b := ⟨_, idx_get (by simp; omega)⟩
    have e3 : iadd .i64 (i : Int) 1 = ((i + 1 : Nat) : Int) := by rw [iadd_i64 (by omega) (by omega)]; omega
    have j8 : ∃ r, gogeom_Coord_Equal_j8 k (gogeom_Coord_Equal_l1 2 [x, y] [p, q] k) (i : Int) = some r := ⟨r, by unfold gogeom_Coord_Equal_j8; rw [e3, hr]⟩
    have j7 : ∀ c, ∃ r, gogeom_Coord_Equal_j7 k (gogeom_Coord_Equal_l1 2 [x, y] [p, q] k) (i : Int) c = some r := by
      intro c
      cases c with
      | true => exact ⟨_, rfl⟩
      | false => exact j8
    have j6 : ∀ c, ∃ r, gogeom_Coord_Equal_j6 k [x, y] (i : Int) (gogeom_Coord_Equal_l1 2 [x, y] [p, q] k) [p, q] c = some r := by
      intro c
      unfold gogeom_Coord_Equal_j6 math_IsNaN
      cases c with
      | true =>
        rw [br_true, e1, sbind, sbind, e2]
        cases fne a a with
        | true => exact j7 (!fne b b)
        | false => exact j7 true
      | false =>
        rw [br_false, e1, sbind, e2, sbind]
        cases fne a b with
        | true => exact ⟨_, rfl⟩
        | false => exact j8
    simp only [gogeom_Coord_Equal_l1, gogeom_Coord_Equal_l1s]
    rw [decide_eq_true (by show (i : Int) < 2; omega), br_true, e1, sbind]
    unfold math_IsNaN
    rw [sbind, e2]
    cases fne a a with
    | true => exact j6 true
    | false => exact j6 (fne b b)
theorem equal_any {k : Nat} (hk : 10 < k) (x y p q : Nat) : ∃ b, gogeom_Coord_Equal k [x, y] 1 [p, q] = some b := by
  obtain ⟨r, hr⟩ := equal_loop x y p q 2 k 0 rfl (by omega) (by omega)
  have hr' : gogeom_Coord_Equal_l1 2 [x, y] [p, q] k 0 = some r := hr
  have hs : gogeom_Layout_Stride k 1 = some 2 := rfl
  unfold gogeom_Coord_Equal
  rw [hs, sbind, sbind, decide_eq_false (by simp), br_false, sbind]
  unfold gogeom_Coord_Equal_j1
  rw [decide_eq_false (by simp), br_false]
  unfold gogeom_Coord_Equal_j2
  rw [br_false, hr', sbind]
  cases r <;> exact ⟨_, rfl⟩
theorem Dabs {x : Nat} {n : Int} {v : Nat} (hx : x < 2 ^ 64) (h : D x n v) : D (x % 2 ^ 63) ((n.natAbs : Nat) : Int) v := D_absn hx h
theorem param_is {k a0 a1 b0 b1 p0 p1 : Nat} {A B P : Int × Int} (ha : Wd a0 a1 A) (hb : Wd b0 b1 B) (hp : Wd p0 p1 P) (hne : A ≠ B) :
    (((B.2 - A.2).natAbs < (B.1 - A.1).natAbs ∧ B.1 - A.1 ≠ 0 ∧ ∃ t f, lineintersector_rParameter k [a0, a1] [b0, b1] [p0, p1] = some t ∧ Q t f ∧ (f < 0 ↔ (P.1 - A.1) * (B.1 - A.1) < 0) ∧ (1 < f ↔ (B.1 - A.1) * (B.1 - A.1) < (P.1 - A.1) * (B.1 - A.1))) ∨
      (¬ (B.2 - A.2).natAbs < (B.1 - A.1).natAbs ∧ B.2 - A.2 ≠ 0 ∧ ∃ t f, lineintersector_rParameter k [a0, a1] [b0, b1] [p0, p1] = some t ∧ Q t f ∧ (f < 0 ↔ (P.2 - A.2) * (B.2 - A.2) < 0) ∧ (1 < f ↔ (B.2 - A.2) * (B.2 - A.2) < (P.2 - A.2) * (B.2 - A.2)))) := by
  have c1 := sub_le1 hb.bx ha.bx
  have c2 := sub_le1 hb.by_ ha.by_
  have c3 := sub_le1 hp.bx ha.bx
  have c4 := sub_le1 hp.by_ ha.by_
  obtain ⟨z1, e1, d1⟩ := D_sub hb.dx ha.dx rfl (by omega) (by decide)
  obtain ⟨z2, e2, d2⟩ := D_sub hb.dy ha.dy rfl (by omega) (by decide)
  obtain ⟨z3, e3, d3⟩ := D_sub hp.dx ha.dx rfl (by omega) (by decide)
  obtain ⟨z4, e4, d4⟩ := D_sub hp.dy ha.dy rfl (by omega) (by decide)
  have l1 : z1 < 2 ^ 64 := by rw [fsub_g e1]; exact gsub_lt _ _
  have l2 : z2 < 2 ^ 64 := by rw [fsub_g e2]; exact gsub_lt _ _
  have l3 : z3 < 2 ^ 64 := by rw [fsub_g e3]; exact gsub_lt _ _
  have l4 : z4 < 2 ^ 64 := by rw [fsub_g e4]; exact gsub_lt _ _
  have hg := D_gt (Dabs l1 d1) (Dabs l2 d2)
  unfold lineintersector_rParameter
  rw [i0, sbind, i0, sbind, e1, sbind, i1, sbind, i1, sbind, e2, sbind, abs_is k z1 l1, sbind, abs_is k z2 l2, sbind, hg]
  by_cases h : (B.2 - A.2).natAbs < (B.1 - A.1).natAbs
  · left
    have hx : B.1 - A.1 ≠ 0 := by omega
    obtain ⟨f, q1, q2, q3⟩ := quo_cmp l3 l1 d3 d1 hx (by omega) (by omega)
    rw [decide_eq_true (by omega), br_true, i0, sbind, sbind, e3, sbind, sbind, sbind, e1, sbind, fdiv_ok q1, sbind]
    exact ⟨h, hx, _, f, rfl, q1, q2, q3⟩
  · right
    have hy : B.2 - A.2 ≠ 0 := by
      intro hy
      exact hne (Prod.ext (by omega) (by omega))
    obtain ⟨f, q1, q2, q3⟩ := quo_cmp l4 l2 d4 d2 hy (by omega) (by omega)
    rw [decide_eq_false (by omega), br_false, i1, sbind, sbind, e4, sbind, sbind, sbind, e2, sbind, fdiv_ok q1, sbind]
    exact ⟨h, hy, _, f, rfl, q1, q2, q3⟩
abbrev T8 := (List Nat) × (List Nat) × (List Nat) × (List Nat) × (List Nat) × (List Nat) × Int × Bool
def Rk (r : T8) (h : Int) : Prop := r.2.2.2.2.2.2.1 = h ∧ (∃ x y, r.2.2.2.2.1 = [x, y]) ∧ ∃ x y, r.2.2.2.2.2.1 = [x, y]
theorem one_q : Q 4607182418800017408 1 := by
  have := Q_whole D_one
  exact this
theorem col_j2 {k x3 x4 : Nat} (u0 u1 u2 u3 : List Nat) (b : Bool) (c0 c1 d0 d1 a0 a1 b0 b1 : Nat) (x5 : Bool) :
    ∃ r, lineintersector_NonRobustLineIntersector_computeCollinearIntersection_j2 k u0 u1 u2 u3 [0, 0] [0, 0] b x3 x4 [b0, b1] [d0, d1] [a0, a1] [c0, c1] x5 = some r ∧ Rk r (if x5 then 0 else 2) := by
  unfold lineintersector_NonRobustLineIntersector_computeCollinearIntersection_j2
  cases x5 with
  | true => exact ⟨_, rfl, rfl, ⟨0, 0, rfl⟩, ⟨0, 0, rfl⟩⟩
  | false =>
    rw [br_false]
    unfold lineintersector_NonRobustLineIntersector_computeCollinearIntersection_j3 lineintersector_NonRobustLineIntersector_computeCollinearIntersection_j4
    cases fgt x3 0 <;> cases flt x4 4607182418800017408 <;> exact ⟨_, rfl, rfl, ⟨_, _, rfl⟩, ⟨_, _, rfl⟩⟩
theorem col_is {k a0 a1 b0 b1 c0 c1 d0 d1 : Nat} {A B C E : Int × Int} (ha : Wd a0 a1 A) (hb : Wd b0 b1 B) (hc : Wd c0 c1 C) (hd : Wd d0 d1 E) (hne : A ≠ B) (u0 u1 u2 u3 : List Nat) (h : Int) (b : Bool) :
    ∃ r, lineintersector_NonRobustLineIntersector_computeCollinearIntersection k u0 u1 u2 u3 [0, 0] [0, 0] h b [a0, a1] [b0, b1] [c0, c1] [d0, d1] = some r ∧
      ((B.1 - A.1 ≠ 0 ∧ ((Off A.1 B.1 C.1 E.1 ∧ Rk r 0) ∨ (¬ Off A.1 B.1 C.1 E.1 ∧ Rk r 2))) ∨ (B.2 - A.2 ≠ 0 ∧ ((Off A.2 B.2 C.2 E.2 ∧ Rk r 0) ∨ (¬ Off A.2 B.2 C.2 E.2 ∧ Rk r 2)))) := by
  have key : ∀ (t1 t2 : Nat) (f1 f2 : Rat) (O : Prop), lineintersector_rParameter k [a0, a1] [b0, b1] [c0, c1] = some t1 → lineintersector_rParameter k [a0, a1] [b0, b1] [d0, d1] = some t2 → Q t1 f1 → Q t2 f2 →
      (((1 < f1 ∧ 1 < f2) ∨ (f1 < 0 ∧ f2 < 0)) ↔ O) → ∃ r, lineintersector_NonRobustLineIntersector_computeCollinearIntersection k u0 u1 u2 u3 [0, 0] [0, 0] h b [a0, a1] [b0, b1] [c0, c1] [d0, d1] = some r ∧ ((O ∧ Rk r 0) ∨ (¬ O ∧ Rk r 2)) := by
    intro t1 t2 f1 f2 O e1 e2 q1 q2 hO
    unfold lineintersector_NonRobustLineIntersector_computeCollinearIntersection
    rw [e1, sbind, e2, sbind, flt_q q1 q2]
    have fin : ∀ {g1 g2 : Rat} {s1 s2 : Nat} (p0 p1 r0 r1 : Nat), Q s1 g1 → Q s2 g2 → g1 ≤ g2 → ((1 < g1 ∨ g2 < 0) ↔ O) →
        ∃ r, lineintersector_NonRobustLineIntersector_computeCollinearIntersection_j1 k u0 u1 u2 u3 [0, 0] [0, 0] b [b0, b1] [a0, a1] [p0, p1] [r0, r1] s1 s2 = some r ∧ ((O ∧ Rk r 0) ∨ (¬ O ∧ Rk r 2)) := by
      intro g1 g2 s1 s2 p0 p1 r0 r1 w1 w2 hle ho
      unfold lineintersector_NonRobustLineIntersector_computeCollinearIntersection_j1
      rw [fgt_q w1 one_q, flt_q w2 q_zero]
      by_cases c1 : 1 < g1
      · rw [decide_eq_true c1, br_true]
        obtain ⟨r, h1, h2⟩ := col_j2 (k := k) (x3 := s1) (x4 := s2) u0 u1 u2 u3 b p0 p1 r0 r1 a0 a1 b0 b1 true
        exact ⟨r, h1, .inl ⟨ho.1 (.inl c1), h2⟩⟩
      · rw [decide_eq_false c1, br_false]
        obtain ⟨r, h1, h2⟩ := col_j2 (k := k) (x3 := s1) (x4 := s2) u0 u1 u2 u3 b p0 p1 r0 r1 a0 a1 b0 b1 (decide (g2 < 0))
        refine ⟨r, h1, ?_⟩
        by_cases c2 : g2 < 0
        · rw [decide_eq_true c2] at h2
          exact .inl ⟨ho.1 (.inr c2), h2⟩
        · rw [decide_eq_false c2] at h2
          exact .inr ⟨fun o => by rcases ho.2 o with h | h; exact c1 h; exact c2 h, h2⟩
    by_cases hlt : f1 < f2
    · rw [decide_eq_true hlt, br_true]
      exact fin c0 c1 d0 d1 q1 q2 (by grind) (by rw [← hO]; constructor <;> intro h <;> grind)
    · rw [decide_eq_false hlt, br_false]
      exact fin d0 d1 c0 c1 q2 q1 (by grind) (by rw [← hO]; constructor <;> intro h <;> grind)
  rcases param_is (k := k) ha hb hc hne with ⟨h1, h2, t1, f1, e1, q1, g1, g1'⟩ | ⟨h1, h2, t1, f1, e1, q1, g1, g1'⟩
  · rcases param_is (k := k) ha hb hd hne with ⟨h3, h4, t2, f2, e2, q2, g2, g2'⟩ | ⟨h3, _⟩
    · obtain ⟨r, r1, r2⟩ := key t1 t2 f1 f2 (Off A.1 B.1 C.1 E.1) e1 e2 q1 q2 (by rw [g1, g2, g1', g2']; rfl)
      exact ⟨r, r1, .inl ⟨h2, r2⟩⟩
    · exact absurd h1 h3
  · rcases param_is (k := k) ha hb hd hne with ⟨h3, _⟩ | ⟨h3, h4, t2, f2, e2, q2, g2, g2'⟩
    · exact absurd h3 h1
    · obtain ⟨r, r1, r2⟩ := key t1 t2 f1 f2 (Off A.2 B.2 C.2 E.2) e1 e2 q1 q2 (by rw [g1, g2, g1', g2']; rfl)
      exact ⟨r, r1, .inr ⟨h2, r2⟩⟩
end Go.Proofs.YthobbfpoooommaaGreat
