/-
  FnSpaceParallel: the plain statement. Ours.
-/
import Derived.Test.YtmkhoplffiakmaaSp3C
import Derived.Test.YtmkhoplffiakmaaRootOf2
namespace Go.Proofs.Ytmkhoplffiakmaa
open Go.Sx
open Ieee (signed)
set_option linter.unusedVariables false
set_option linter.unusedSimpArgs false
set_option maxRecDepth 100000

theorem spaceTo_loop (w : Nat) (b : Nat) (hw : D w (b : Int) 1074) (hb : b < 2 ^ 53) (xs : List (Nat × Nat × Nat)) (hx : ∀ x ∈ xs, x.1 < 2 ^ 64 ∧ x.2.1 < 2 ^ 64 ∧ x.2.2 < 2 ^ 64) (hl : xs.length < 1000000) : ∀ (n k i : Nat), xs.length - i = n → n + 4 < k → i ≤ xs.length →
    ∃ y, laws_spaceTo_l1 xs w k (i : Int) = some y ∧ (y = .inr () → ∀ j (hj : j < xs.length), i ≤ j → ∀ x, (x = xs[j].1 ∨ x = xs[j].2.1 ∨ x = xs[j].2.2) → ∃ n : Int, D x n 1074 ∧ n.natAbs ≤ b) := by
  intro n
  induction n with
  | zero =>
    intro k i hn hk hi
    obtain ⟨k', rfl⟩ : ∃ k', k = k' + 1 := ⟨k - 1, by omega⟩
    show ∃ y, laws_spaceTo_l1s xs w k' (laws_spaceTo_l1 xs w k') (i : Int) = some y ∧ _
    unfold laws_spaceTo_l1s
    rw [decide_eq_false (by omega), br_false]
    exact ⟨_, rfl, fun _ j hj h => by omega⟩
  | succ n ih =>
    intro k i hn hk hi
    obtain ⟨k', rfl⟩ : ∃ k', k = k' + 1 := ⟨k - 1, by omega⟩
    have hi' : i < xs.length := by omega
    show ∃ y, laws_spaceTo_l1s xs w k' (laws_spaceTo_l1 xs w k') (i : Int) = some y ∧ _
    unfold laws_spaceTo_l1s
    obtain ⟨x0, x1, x2⟩ := hx _ (List.getElem_mem hi')
    obtain ⟨r, q, hq⟩ := wholeTo_is (k := k') w b hw hb [xs[i].1, xs[i].2.1, xs[i].2.2] (by simp [x0, x1, x2]) (by simp; omega) (by simp)
    rw [decide_eq_true (by omega), br_true, idx_get hi', sbind, q, sbind]
    cases r with
    | false => exact ⟨_, rfl, fun h => by cases h⟩
    | true =>
      obtain ⟨y, y1, y2⟩ := ih k' (i + 1) (by omega) (by omega) (by omega)
      have e : iadd .i64 (i : Int) 1 = ((i + 1 : Nat) : Int) := by rw [iadd_one (by omega)]
      rw [Bool.not_true, br_false, e]
      refine ⟨y, y1, fun hy j hj hij x hxx => ?_⟩
      by_cases ej : j = i
      · subst ej
        exact hq rfl x (by rcases hxx with h | h | h <;> simp [h])
      · exact y2 hy j hj (by omega) x hxx
theorem spaceTo_is {k : Nat} (w : Nat) (b : Nat) (hw : D w (b : Int) 1074) (hb : b < 2 ^ 53) (xs : List (Nat × Nat × Nat)) (hx : ∀ x ∈ xs, x.1 < 2 ^ 64 ∧ x.2.1 < 2 ^ 64 ∧ x.2.2 < 2 ^ 64) (hl : xs.length + 4 < k) (hl' : xs.length < 1000000) :
    ∃ r, laws_spaceTo k w xs = some r ∧ (r = true → ∀ x y z, (x, y, z) ∈ xs → ∃ a b' c : Int, (D x a 1074 ∧ a.natAbs ≤ b) ∧ (D y b' 1074 ∧ b'.natAbs ≤ b) ∧ (D z c 1074 ∧ c.natAbs ≤ b)) := by
  obtain ⟨y, y1, y2⟩ := spaceTo_loop w b hw hb xs hx hl' xs.length k 0 (by omega) hl (by omega)
  have y1' : laws_spaceTo_l1 xs w k 0 = some y := y1
  unfold laws_spaceTo
  rw [y1']
  cases y with
  | inl u => exact ⟨false, rfl, fun h => by cases h⟩
  | inr u =>
    refine ⟨true, rfl, fun _ p q r hm => ?_⟩
    obtain ⟨j, hj, e⟩ := List.mem_iff_getElem.1 hm
    obtain ⟨a, a1, a2⟩ := y2 rfl j hj (by omega) p (by rw [e]; exact .inl rfl)
    obtain ⟨b', b1, b2⟩ := y2 rfl j hj (by omega) q (by rw [e]; exact .inr (.inl rfl))
    obtain ⟨c, c1, c2⟩ := y2 rfl j hj (by omega) r (by rw [e]; exact .inr (.inr rfl))
    exact ⟨a, b', c, ⟨a1, a2⟩, ⟨b1, b2⟩, ⟨c1, c2⟩⟩
theorem D_256 : D 4643211215818981376 ((256 : Nat) : Int) 1074 := by
  have h := Go.Sx.D_fields (E := 1031) (F := 0) (by omega) (by omega) (by omega) (n := 256) (v := 1074) (by
      rw [show (1031 - 1 : Nat) = 1030 from rfl]; decide +kernel)
  exact h
/-- a place on the way: start, and so many steps -/
theorem step_is {j : Int} {s a : Nat} {S A : Int} (hs : D s S 1074) (ha : D a A 1074) (cS : S.natAbs ≤ 256) (cA : A.natAbs ≤ 256) (cj : j.natAbs ≤ 100) : D (gadd a (gmul (i2f j) s)) (A + j * S) 1074 := by
  have hj : D (i2f j) j 1074 := D_i2f (Nat.le_trans cj (by decide))
  have h1 := prod_bd cj cS
  have h2 := gmul_D hj hs rfl rfl (by decide) (Nat.le_trans h1 (by decide)) (by decide)
  exact gadd_D ha h2 rfl (Nat.le_trans (Int.natAbs_add_le _ _) (Nat.le_trans (Nat.add_le_add cA h1) (by decide))) (by decide)
theorem D_inj3 {x : Nat} {a b : Int} (h : D x a 1074) (h' : D x b 1074) : a = b := by
  have h1 := D_eq h h'
  have h2 := D_eq h h
  rw [decide_eq_true rfl] at h2
  rw [h2] at h1
  exact of_decide_eq_true h1.symm
/-- a fraction that is not above any of the others is the same as the least -/
theorem same_frac {N F n d : Int} {S X g : Int} (hS : 0 < S) (hF : 0 < F) (hd : 0 < d) (hn : n * S = d * (X + g)) (hle : N * d ≤ n * F) {n' d' g' : Int} (hd' : 0 < d') (hn' : n' * S = d' * (X + g')) (hg : g ≤ g') (hN : N = n' ∧ F = d') : n * F = N * d := by
  obtain ⟨rfl, rfl⟩ := hN
  have h1 : n * F * S = d * F * (X + g) := by rw [show n * F * S = n * S * F by grind, hn]; grind
  have h2 : N * d * S = d * F * (X + g') := by rw [show N * d * S = N * S * d by grind, hn']; grind
  have h3 := Int.mul_le_mul_of_nonneg_left hg (Int.le_of_lt (Int.mul_pos hd hF))
  have h4 : n * F * S ≤ N * d * S := by rw [h1, h2, Int.mul_add, Int.mul_add]; omega
  have h5 := Int.le_of_mul_le_mul_right h4 hS
  omega
theorem near_same {o : Rat} {n d N F : Int} (h : NearR o (n : Rat) (d : Rat)) (hd : 0 < d) (hF : 0 < F) (he : n * F = N * d) : NearR o (N : Rat) (F : Rat) := by
  have h1 := int_lt_rat hd
  have h2 := int_lt_rat hF
  have z0' : ((0 : Int) : Rat) = 0 := rfl
  rw [z0'] at h1 h2
  refine near_eq h (by grind) (by grind) ?_
  have := congrArg (fun z : Int => (z : Rat)) he
  simp only [Rat.intCast_mul] at this
  exact this
theorem dt_add (s0 s1 s2 w0 w1 w2 n : Int) : dt3 s0 s1 s2 (w0 + n * s0) (w1 + n * s1) (w2 + n * s2) = dt3 s0 s1 s2 w0 w1 w2 + n * lng s0 s1 s2 := by unfold dt3 lng; grind
theorem dt_neg (s0 s1 s2 w0 w1 w2 n : Int) : dt3 s0 s1 s2 (n * s0 - w0) (n * s1 - w1) (n * s2 - w2) = n * lng s0 s1 s2 - dt3 s0 s1 s2 w0 w1 w2 := by unfold dt3 lng; grind
theorem cr_neg (s0 s1 s2 w0 w1 w2 n : Int) : cr2 s0 s1 s2 (n * s0 - w0) (n * s1 - w1) (n * s2 - w2) = cr2 s0 s1 s2 w0 w1 w2 := by unfold cr2; grind
theorem dt_flip (s0 s1 s2 a0 a1 a2 c0 c1 c2 : Int) : dt3 s0 s1 s2 (c0 - a0) (c1 - a1) (c2 - a2) = -dt3 s0 s1 s2 (a0 - c0) (a1 - c1) (a2 - c2) := by unfold dt3; grind
theorem cr_flip (s0 s1 s2 a0 a1 a2 c0 c1 c2 : Int) : cr2 s0 s1 s2 (c0 - a0) (c1 - a1) (c2 - a2) = cr2 s0 s1 s2 (a0 - c0) (a1 - c1) (a2 - c2) := by unfold cr2; grind
theorem gp_zero {k t S : Int} (hS : 0 < S) (hk : k ≠ 0) (h0 : 0 ≤ k * t) (h1 : k * t ≤ k * k * S) : gp k t S = 0 := by
  unfold gp
  by_cases c1 : k * t ≤ 0
  · rw [if_pos c1]
    rcases Int.mul_eq_zero.1 (show k * t = 0 by omega) with h | h
    · exact absurd h hk
    · exact h
  rw [if_neg c1]
  by_cases c2 : k * k * S ≤ k * t
  · rw [if_pos c2]
    have h : k * (t - k * S) = 0 := by rw [Int.mul_sub, ← Int.mul_assoc]; omega
    rcases Int.mul_eq_zero.1 h with h | h
    · exact absurd h hk
    · exact h
  · rw [if_neg c2]
/-- the least fraction's root is what the program is near -/
theorem core_is {o : Rat} {a0 a1 a2 b0 b1 b2 c0 c1 c2 d0 d1 d2 s0 s1 s2 j k N F : Int} (hj : j ≠ 0) (hk : k ≠ 0) (hS : 0 < lng s0 s1 s2)
    (p0 : b0 - a0 = j * s0) (p1 : b1 - a1 = j * s1) (p2 : b2 - a2 = j * s2) (q0 : d0 - c0 = k * s0) (q1 : d1 - c1 = k * s1) (q2 : d2 - c2 = k * s2)
    (ht : Told o a0 a1 a2 b0 b1 b2 c0 c1 c2 d0 d1 d2) (hF : 0 < F)
    (hm : (N = sgN (d0 - c0) (d1 - c1) (d2 - c2) (a0 - c0) (a1 - c1) (a2 - c2) ∧ F = sgD (d0 - c0) (d1 - c1) (d2 - c2) (a0 - c0) (a1 - c1) (a2 - c2)) ∨
       (N = sgN (d0 - c0) (d1 - c1) (d2 - c2) (b0 - c0) (b1 - c1) (b2 - c2) ∧ F = sgD (d0 - c0) (d1 - c1) (d2 - c2) (b0 - c0) (b1 - c1) (b2 - c2)) ∨
       (N = sgN (b0 - a0) (b1 - a1) (b2 - a2) (c0 - a0) (c1 - a1) (c2 - a2) ∧ F = sgD (b0 - a0) (b1 - a1) (b2 - a2) (c0 - a0) (c1 - a1) (c2 - a2)) ∨
       (N = sgN (b0 - a0) (b1 - a1) (b2 - a2) (d0 - a0) (d1 - a1) (d2 - a2) ∧ F = sgD (b0 - a0) (b1 - a1) (b2 - a2) (d0 - a0) (d1 - a1) (d2 - a2)))
    (m0 : N * sgD (d0 - c0) (d1 - c1) (d2 - c2) (a0 - c0) (a1 - c1) (a2 - c2) ≤ sgN (d0 - c0) (d1 - c1) (d2 - c2) (a0 - c0) (a1 - c1) (a2 - c2) * F)
    (m2 : N * sgD (b0 - a0) (b1 - a1) (b2 - a2) (c0 - a0) (c1 - a1) (c2 - a2) ≤ sgN (b0 - a0) (b1 - a1) (b2 - a2) (c0 - a0) (c1 - a1) (c2 - a2) * F)
    (m3 : N * sgD (b0 - a0) (b1 - a1) (b2 - a2) (d0 - a0) (d1 - a1) (d2 - a2) ≤ sgN (b0 - a0) (b1 - a1) (b2 - a2) (d0 - a0) (d1 - a1) (d2 - a2) * F) : NearR o (N : Rat) (F : Rat) := by
  have g0 := sg_gap k s0 s1 s2 (a0 - c0) (a1 - c1) (a2 - c2)
  have g1 := sg_gap k s0 s1 s2 (a0 - c0 + j * s0) (a1 - c1 + j * s1) (a2 - c2 + j * s2)
  have g2 := sg_gap j s0 s1 s2 (c0 - a0) (c1 - a1) (c2 - a2)
  have g3 := sg_gap j s0 s1 s2 (k * s0 - (a0 - c0)) (k * s1 - (a1 - c1)) (k * s2 - (a2 - c2))
  rw [sq_add, dt_add] at g1
  rw [dt_flip, cr_flip] at g2
  rw [cr_neg, dt_neg] at g3
  have x0 : a0 - c0 + j * s0 = b0 - c0 := by omega
  have x1 : a1 - c1 + j * s1 = b1 - c1 := by omega
  have x2 : a2 - c2 + j * s2 = b2 - c2 := by omega
  have z0 : k * s0 - (a0 - c0) = d0 - a0 := by omega
  have z1 : k * s1 - (a1 - c1) = d1 - a1 := by omega
  have z2 : k * s2 - (a2 - c2) = d2 - a2 := by omega
  rw [x0, x1, x2] at g1
  rw [z0, z1, z2] at g3
  have hab : 0 < lng (j * s0) (j * s1) (j * s2) := by rw [lng_mul]; exact Int.mul_pos (by rcases Int.lt_trichotomy j 0 with h | h | h; exact Int.mul_pos_of_neg_of_neg h h; exact absurd h hj; exact Int.mul_pos h h) hS
  have hcd : 0 < lng (k * s0) (k * s1) (k * s2) := by rw [lng_mul]; exact Int.mul_pos (by rcases Int.lt_trichotomy k 0 with h | h | h; exact Int.mul_pos_of_neg_of_neg h h; exact absurd h hk; exact Int.mul_pos h h) hS
  unfold Told at ht
  rw [p0, p1, p2, q0, q1, q2] at *
  rw [dt_left, lng_mul, cr2_left] at ht
  have dp : ∀ {w0 w1 w2 : Int}, 0 < sgD (j * s0) (j * s1) (j * s2) w0 w1 w2 := fun {_ _ _} => sgD_pos hab
  have dq : ∀ {w0 w1 w2 : Int}, 0 < sgD (k * s0) (k * s1) (k * s2) w0 w1 w2 := fun {_ _ _} => sgD_pos hcd
  rcases ht with ⟨hc, hn⟩ | ⟨hc, hn⟩ | ⟨hc, hn⟩
  · have hc' : k * dt3 s0 s1 s2 (a0 - c0) (a1 - c1) (a2 - c2) < 0 ∨ dt3 s0 s1 s2 (a0 - c0) (a1 - c1) (a2 - c2) + j * lng s0 s1 s2 = 0 := by
      rcases hc with h | ⟨h0, h1, h2⟩
      · exact .inl h
      · right
        rw [← dt_add, x0, x1, x2, h0, h1, h2]
        unfold dt3; simp
    obtain ⟨n0, n1, n3⟩ := near_c hS hj hk hc'
    refine near_same hn dp hF ?_
    rcases hm with hm | hm | hm | hm
    · exact same_frac hS hF dp g2 m2 dq g0 n0 hm
    · exact same_frac hS hF dp g2 m2 dq g1 n1 hm
    · exact same_frac hS hF dp g2 m2 dp g2 (Int.le_refl _) hm
    · exact same_frac hS hF dp g2 m2 dp g3 n3 hm
  · obtain ⟨n0, n1, n2⟩ := near_d hS hj hk hc
    refine near_same hn dp hF ?_
    rcases hm with hm | hm | hm | hm
    · exact same_frac hS hF dp g3 m3 dq g0 n0 hm
    · exact same_frac hS hF dp g3 m3 dq g1 n1 hm
    · exact same_frac hS hF dp g3 m3 dp g2 n2 hm
    · exact same_frac hS hF dp g3 m3 dp g3 (Int.le_refl _) hm
  · have gz := gp_zero hS hk hc.1 hc.2
    have hkk : 0 < k * k := by rcases Int.lt_trichotomy k 0 with h | h | h; exact Int.mul_pos_of_neg_of_neg h h; exact absurd h hk; exact Int.mul_pos h h
    have hd : 0 < k * k * lng s0 s1 s2 := Int.mul_pos hkk hS
    have gn : k * k * cr2 s0 s1 s2 (a0 - c0) (a1 - c1) (a2 - c2) * lng s0 s1 s2 = k * k * lng s0 s1 s2 * (cr2 s0 s1 s2 (a0 - c0) (a1 - c1) (a2 - c2) + 0) := by grind
    have hle : N * (k * k * lng s0 s1 s2) ≤ k * k * cr2 s0 s1 s2 (a0 - c0) (a1 - c1) (a2 - c2) * F := by
      rw [gz] at g0
      have e1 := Int.mul_le_mul_of_nonneg_right m0 (Int.le_of_lt hS)
      have e2 : sgN (k * s0) (k * s1) (k * s2) (a0 - c0) (a1 - c1) (a2 - c2) * F * lng s0 s1 s2 = sgD (k * s0) (k * s1) (k * s2) (a0 - c0) (a1 - c1) (a2 - c2) * (cr2 s0 s1 s2 (a0 - c0) (a1 - c1) (a2 - c2) * F) := by
        rw [show sgN (k * s0) (k * s1) (k * s2) (a0 - c0) (a1 - c1) (a2 - c2) * F * lng s0 s1 s2 = sgN (k * s0) (k * s1) (k * s2) (a0 - c0) (a1 - c1) (a2 - c2) * lng s0 s1 s2 * F by grind, g0]; grind
      have e3 : N * sgD (k * s0) (k * s1) (k * s2) (a0 - c0) (a1 - c1) (a2 - c2) * lng s0 s1 s2 = sgD (k * s0) (k * s1) (k * s2) (a0 - c0) (a1 - c1) (a2 - c2) * (N * lng s0 s1 s2) := by grind
      rw [e2, e3] at e1
      have e4 := Int.le_of_mul_le_mul_left e1 dq
      have e5 := Int.mul_le_mul_of_nonneg_left e4 (Int.le_of_lt hkk)
      have e6 : N * (k * k * lng s0 s1 s2) = k * k * (N * lng s0 s1 s2) := by grind
      have e7 : k * k * cr2 s0 s1 s2 (a0 - c0) (a1 - c1) (a2 - c2) * F = k * k * (cr2 s0 s1 s2 (a0 - c0) (a1 - c1) (a2 - c2) * F) := by grind
      rw [e6, e7]; exact e5
    refine near_same hn hd hF ?_
    rcases hm with hm | hm | hm | hm
    · exact same_frac hS hF hd gn hle dq g0 (sq_nn3 _) hm
    · exact same_frac hS hF hd gn hle dq g1 (sq_nn3 _) hm
    · exact same_frac hS hF hd gn hle dp g2 (sq_nn3 _) hm
    · exact same_frac hS hF hd gn hle dp g3 (sq_nn3 _) hm
theorem sgN_bd {u0 u1 u2 w0 w1 w2 : Int} (hu : lng u0 u1 u2 ≤ 786432) (hw : lng w0 w1 w2 ≤ 786432) (hv : lng (w0 - u0) (w1 - u1) (w2 - u2) ≤ 786432) (hpos : 0 < lng u0 u1 u2) :
    0 ≤ sgN u0 u1 u2 w0 w1 w2 ∧ sgN u0 u1 u2 w0 w1 w2 ≤ 786432 * sgD u0 u1 u2 w0 w1 w2 ∧ sgD u0 u1 u2 w0 w1 w2 ≤ 786432 := by
  have h1 := lng_nn w0 w1 w2
  have h2 := lng_nn (w0 - u0) (w1 - u1) (w2 - u2)
  have h3 := lagr u0 u1 u2 w0 w1 w2
  have h4 := sq_nn3 (dt3 u0 u1 u2 w0 w1 w2)
  have h5 : 0 ≤ cr2 u0 u1 u2 w0 w1 w2 := by
    unfold cr2
    have a := sq_nn3 (u1 * w2 - u2 * w1)
    have b := sq_nn3 (u2 * w0 - u0 * w2)
    have c := sq_nn3 (u0 * w1 - u1 * w0)
    omega
  unfold sgN sgD
  by_cases c1 : dt3 u0 u1 u2 w0 w1 w2 ≤ 0
  · rw [if_pos c1, if_pos c1]; omega
  rw [if_neg c1, if_neg c1]
  by_cases c2 : lng u0 u1 u2 ≤ dt3 u0 u1 u2 w0 w1 w2
  · rw [if_pos c2, if_pos c2]; omega
  · rw [if_neg c2, if_neg c2]
    have h6 := Int.mul_le_mul_of_nonneg_left hw (Int.le_of_lt hpos)
    refine ⟨h5, ?_, hu⟩
    have h7 : lng u0 u1 u2 * 786432 = 786432 * lng u0 u1 u2 := Int.mul_comm _ _
    omega
theorem lng_bd {a0 a1 a2 b0 b1 b2 : Int} (h0 : a0.natAbs ≤ 256) (h1 : a1.natAbs ≤ 256) (h2 : a2.natAbs ≤ 256) (g0 : b0.natAbs ≤ 256) (g1 : b1.natAbs ≤ 256) (g2 : b2.natAbs ≤ 256) : lng (a0 - b0) (a1 - b1) (a2 - b2) ≤ 786432 := by
  have e0 := prod_bd (show (a0 - b0).natAbs ≤ 512 by omega) (show (a0 - b0).natAbs ≤ 512 by omega)
  have e1 := prod_bd (show (a1 - b1).natAbs ≤ 512 by omega) (show (a1 - b1).natAbs ≤ 512 by omega)
  have e2 := prod_bd (show (a2 - b2).natAbs ≤ 512 by omega) (show (a2 - b2).natAbs ≤ 512 by omega)
  clear h0 h1 h2 g0 g1 g2
  unfold lng
  omega
theorem lng_eq {x0 x1 x2 y0 y1 y2 : Int} (h0 : x0 = y0) (h1 : x1 = y1) (h2 : x2 = y2) (h : lng y0 y1 y2 ≤ 786432) : lng x0 x1 x2 ≤ 786432 := by rw [h0, h1, h2]; exact h
theorem sub_sub3 (p a b : Int) : p - a - (b - a) = p - b := by omega
/-- the root of the least fraction, against what the program is near -/
theorem root_end {k : Nat} {r : T6} {N F : Int} {o : Rat} {w : Nat} (hr : R6 r N F) (hF : 0 < F) (h0 : 0 ≤ N) (h1 : N ≤ 786432 * F) (h2 : F ≤ 786432) (hn : NearR o (N : Rat) (F : Rat)) (qo : Q w o) (hk : 400000 < k) :
    ∃ y, laws_rootOf k r.1 r.2.1 r.2.2.1 r.2.2.2.1 r.2.2.2.2.1 r.2.2.2.2.2 = some y ∧ num y = some y ∧ laws_nearTo k w y = some true := by
  obtain ⟨n, rfl⟩ : ∃ n : Nat, N = (n : Int) := ⟨N.toNat, by omega⟩
  obtain ⟨d, rfl⟩ : ∃ d : Nat, F = (d : Int) := ⟨F.toNat, by omega⟩
  obtain ⟨y, ρ, q1, q2, q3, q4, q5⟩ := rootOf2 (k := k) (K := 4296) (K' := 2148) (n := n) (d := d) hr.1 (by decide) (by decide) (by decide) (by omega) hr.2 (by decide) (by decide) (by decide) (by omega) (by omega) hk
  have e1 : ((n : Int) : Rat) = (n : Rat) := Rat.intCast_natCast n
  have e2 : ((d : Int) : Rat) = (d : Rat) := Rat.intCast_natCast d
  have c0 := int_le_rat h0
  have c1 := int_le_rat h1
  have c2 := int_lt_rat hF
  have z0' : ((0 : Int) : Rat) = 0 := rfl
  have z1' : ((786432 : Int) : Rat) = 786432 := rfl
  rw [z0', e1] at c0
  rw [Rat.intCast_mul, z1', e1, e2] at c1
  rw [z0', e2] at c2
  rw [e1, e2] at hn
  have hr4 : ρ ≤ 4096 := by
    apply le_of_sq (by grind)
    apply le_of_mul_le (d := (d : Rat)) (by grind)
    generalize (n : Rat) = x at *
    generalize (d : Rat) = z at *
    generalize ρ * ρ * z = t at *
    grind
  obtain ⟨f1, f2⟩ := near_fin hn q3 hr4 c0 q4 q5
  exact ⟨y, q1, num_q q2, nearTo3 qo q2 f1 f2⟩
theorem ne_list {S0 S1 S2 : Int} {s0 s1 s2 : Nat} (h0 : D s0 S0 1074) (h1 : D s1 S1 1074) (h2 : D s2 S2 1074) : ((feq s0 0) && ((feq s1 0) && ((feq s2 0) && true))) = decide (S0 = 0 ∧ S1 = 0 ∧ S2 = 0) := by
  rw [D_eq h0 (D_zero 1074), D_eq h1 (D_zero 1074), D_eq h2 (D_zero 1074)]
  by_cases a : S0 = 0 <;> by_cases b : S1 = 0 <;> by_cases c : S2 = 0 <;> simp [a, b, c]
set_option maxHeartbeats 4000000 in
theorem fact_FnSpaceParallel (a0 a1 a2 c0 c1 c2 s0 s1 s2 : Nat) (j m : Int) (g0 : a0 < 18446744073709551616 ∧ a1 < 18446744073709551616 ∧ a2 < 18446744073709551616) (g1 : c0 < 18446744073709551616 ∧ c1 < 18446744073709551616 ∧ c2 < 18446744073709551616) (g2 : s0 < 18446744073709551616 ∧ s1 < 18446744073709551616 ∧ s2 < 18446744073709551616)
    {p q : Prop} (gj : p) (gm : q) :
    laws_FnSpaceParallel 500000 a0 a1 a2 c0 c1 c2 s0 s1 s2 j m = some true := by
  obtain ⟨r, r1, r2⟩ := spaceTo_is (k := 500000) 4643211215818981376 256 D_256 (by omega) [(a0, a1, a2), (c0, c1, c2), (s0, s1, s2)] (by simp [g0, g1, g2]) (by simp) (by simp)
  unfold laws_FnSpaceParallel
  rw [r1, sbind]
  cases r with
  | false => rfl
  | true =>
  obtain ⟨A0, A1, A2, ⟨da0, ba0⟩, ⟨da1, ba1⟩, ⟨da2, ba2⟩⟩ := r2 rfl a0 a1 a2 (by simp)
  obtain ⟨C0, C1, C2, ⟨dc0, bc0⟩, ⟨dc1, bc1⟩, ⟨dc2, bc2⟩⟩ := r2 rfl c0 c1 c2 (by simp)
  obtain ⟨S0, S1, S2, ⟨ds0, bs0⟩, ⟨ds1, bs1⟩, ⟨ds2, bs2⟩⟩ := r2 rfl s0 s1 s2 (by simp)
  rw [Bool.not_true, br_false, ne_list ds0 ds1 ds2]
  by_cases hs : S0 = 0 ∧ S1 = 0 ∧ S2 = 0
  · rw [decide_eq_true hs]; rfl
  rw [decide_eq_false hs]
  unfold laws_FnSpaceParallel_j1
  rw [br_false]
  by_cases hj : j = 0
  · rw [decide_eq_true hj]; rfl
  rw [decide_eq_false hj]
  unfold laws_FnSpaceParallel_j2
  rw [br_false]
  by_cases hm : m = 0
  · rw [decide_eq_true hm]; rfl
  rw [decide_eq_false hm]
  unfold laws_FnSpaceParallel_j3
  rw [br_false]
  by_cases hj1 : j < -100
  · rw [decide_eq_true hj1]; rfl
  rw [decide_eq_false hj1]
  unfold laws_FnSpaceParallel_j4
  rw [br_false]
  by_cases hj2 : 100 < j
  · rw [decide_eq_true hj2]; rfl
  rw [decide_eq_false hj2]
  unfold laws_FnSpaceParallel_j5
  rw [br_false]
  by_cases hm1 : m < -100
  · rw [decide_eq_true hm1]; rfl
  rw [decide_eq_false hm1]
  unfold laws_FnSpaceParallel_j6
  rw [br_false]
  by_cases hm2 : 100 < m
  · rw [decide_eq_true hm2]; rfl
  rw [decide_eq_false hm2]
  unfold laws_FnSpaceParallel_j7
  have cj : j.natAbs ≤ 100 := by omega
  have cm : m.natAbs ≤ 100 := by omega
  have tb0 := step_is ds0 da0 bs0 ba0 cj
  have tb1 := step_is ds1 da1 bs1 ba1 cj
  have tb2 := step_is ds2 da2 bs2 ba2 cj
  have td0 := step_is ds0 dc0 bs0 bc0 cm
  have td1 := step_is ds1 dc1 bs1 bc1 cm
  have td2 := step_is ds2 dc2 bs2 bc2 cm
  rw [br_false, sbind, sbind, sbind, sbind, sbind, sbind, sbind, sbind, sbind, sbind, sbind, sbind]
  have lb0 := gadd_lt a0 (gmul (i2f j) s0)
  have lb1 := gadd_lt a1 (gmul (i2f j) s1)
  have lb2 := gadd_lt a2 (gmul (i2f j) s2)
  have ld0 := gadd_lt c0 (gmul (i2f m) s0)
  have ld1 := gadd_lt c1 (gmul (i2f m) s1)
  have ld2 := gadd_lt c2 (gmul (i2f m) s2)
  generalize gadd a0 (gmul (i2f j) s0) = b0 at *
  generalize gadd a1 (gmul (i2f j) s1) = b1 at *
  generalize gadd a2 (gmul (i2f j) s2) = b2 at *
  generalize gadd c0 (gmul (i2f m) s0) = d0 at *
  generalize gadd c1 (gmul (i2f m) s1) = d1 at *
  generalize gadd c2 (gmul (i2f m) s2) = d2 at *
  have nb0 := num_q (Q_whole tb0)
  have nb1 := num_q (Q_whole tb1)
  have nb2 := num_q (Q_whole tb2)
  have nd0 := num_q (Q_whole td0)
  have nd1 := num_q (Q_whole td1)
  have nd2 := num_q (Q_whole td2)
  obtain ⟨t, t1, t2⟩ := spaceTo_is (k := 500000) 4643211215818981376 256 D_256 (by omega) [(b0, b1, b2), (d0, d1, d2)] (by simp [lb0, lb1, lb2, ld0, ld1, ld2]) (by simp) (by simp)
  rw [nb0, sbind, nb1, sbind, nb2, sbind, nd0, sbind, nd1, sbind, nd2, sbind, t1, sbind]
  cases t with
  | false => rfl
  | true =>
  obtain ⟨B0, B1, B2, ⟨db0, bb0⟩, ⟨db1, bb1⟩, ⟨db2, bb2⟩⟩ := t2 rfl b0 b1 b2 (by simp)
  obtain ⟨E0, E1, E2, ⟨dd0, bd0⟩, ⟨dd1, bd1⟩, ⟨dd2, bd2⟩⟩ := t2 rfl d0 d1 d2 (by simp)
  have p0 : B0 - A0 = j * S0 := by rw [D_inj3 db0 tb0]; omega
  have p1 : B1 - A1 = j * S1 := by rw [D_inj3 db1 tb1]; omega
  have p2 : B2 - A2 = j * S2 := by rw [D_inj3 db2 tb2]; omega
  have q0 : E0 - C0 = m * S0 := by rw [D_inj3 dd0 td0]; omega
  have q1 : E1 - C1 = m * S1 := by rw [D_inj3 dd1 td1]; omega
  have q2 : E2 - C2 = m * S2 := by rw [D_inj3 dd2 td2]; omega
  clear tb0 tb1 tb2 td0 td1 td2
  have hS : 0 < lng S0 S1 S2 := lng_pos hs
  have mul0 : ∀ {x : Int}, j * x = 0 → x = 0 := fun h => (Int.mul_eq_zero.1 h).resolve_left hj
  have mul1 : ∀ {x : Int}, m * x = 0 → x = 0 := fun h => (Int.mul_eq_zero.1 h).resolve_left hm
  have hab : ¬ (A0 = B0 ∧ A1 = B1 ∧ A2 = B2) := fun h => hs ⟨mul0 (by rw [← p0, h.1, Int.sub_self]), mul0 (by rw [← p1, h.2.1, Int.sub_self]), mul0 (by rw [← p2, h.2.2, Int.sub_self])⟩
  have hcd : ¬ (C0 = E0 ∧ C1 = E1 ∧ C2 = E2) := fun h => hs ⟨mul1 (by rw [← q0, h.1, Int.sub_self]), mul1 (by rw [← q1, h.2.1, Int.sub_self]), mul1 (by rw [← q2, h.2.2, Int.sub_self])⟩
  have lab : 0 < lng (B0 - A0) (B1 - A1) (B2 - A2) := lng_pos (ne_sub3 hab)
  have lcd : 0 < lng (E0 - C0) (E1 - C1) (E2 - C2) := lng_pos (ne_sub3 hcd)
  obtain ⟨w, o, l1, l2, l3⟩ := lineLine_is 500000 da0 da1 da2 db0 db1 db2 dc0 dc1 dc2 dd0 dd1 dd2 ba0 ba1 ba2 bb0 bb1 bb2 bc0 bc1 bc2 bd0 bd1 bd2 hab hcd p0 p1 p2 q0 q1 q2
  obtain ⟨va, qa, wa⟩ := exactly3_is (k := 500000) g0.1 g0.2.1 g0.2.2 da0 da1 da2 (by omega)
  obtain ⟨vb, qb, wb⟩ := exactly3_is (k := 500000) lb0 lb1 lb2 db0 db1 db2 (by omega)
  obtain ⟨vc, qc, wc⟩ := exactly3_is (k := 500000) g1.1 g1.2.1 g1.2.2 dc0 dc1 dc2 (by omega)
  obtain ⟨vd, qd, wd⟩ := exactly3_is (k := 500000) ld0 ld1 ld2 dd0 dd1 dd2 (by omega)
  obtain ⟨r, N, F, x1, x2, x3, x4, x5, x6, x7, x8⟩ := between3v (k := 500000) wa wb wc wd (by omega) lab lcd p0 p1 p2 q0 q1 q2
  have hn := core_is hj hm hS p0 p1 p2 q0 q1 q2 l3 x3 x4 x5 x7 x8
  have bAB := lng_bd bb0 bb1 bb2 ba0 ba1 ba2
  have bCD := lng_bd bd0 bd1 bd2 bc0 bc1 bc2
  have hN : 0 ≤ N ∧ N ≤ 786432 * F ∧ F ≤ 786432 := by
    rcases x4 with ⟨rfl, rfl⟩ | ⟨rfl, rfl⟩ | ⟨rfl, rfl⟩ | ⟨rfl, rfl⟩
    · exact sgN_bd bCD (lng_bd ba0 ba1 ba2 bc0 bc1 bc2) (lng_eq (sub_sub3 _ _ _) (sub_sub3 _ _ _) (sub_sub3 _ _ _) (lng_bd ba0 ba1 ba2 bd0 bd1 bd2)) lcd
    · exact sgN_bd bCD (lng_bd bb0 bb1 bb2 bc0 bc1 bc2) (lng_eq (sub_sub3 _ _ _) (sub_sub3 _ _ _) (sub_sub3 _ _ _) (lng_bd bb0 bb1 bb2 bd0 bd1 bd2)) lcd
    · exact sgN_bd bAB (lng_bd bc0 bc1 bc2 ba0 ba1 ba2) (lng_eq (sub_sub3 _ _ _) (sub_sub3 _ _ _) (sub_sub3 _ _ _) (lng_bd bc0 bc1 bc2 bb0 bb1 bb2)) lab
    · exact sgN_bd bAB (lng_bd bd0 bd1 bd2 ba0 ba1 ba2) (lng_eq (sub_sub3 _ _ _) (sub_sub3 _ _ _) (sub_sub3 _ _ _) (lng_bd bd0 bd1 bd2 bb0 bb1 bb2)) lab
  obtain ⟨y, y1, y2, y3⟩ := root_end (k := 500000) x2 x3 hN.1 hN.2.1 hN.2.2 hn l2 (by omega)
  have il : impl_LineLine3 500000 a0 a1 a2 b0 b1 b2 c0 c1 c2 d0 d1 d2 = some (w, true) := by
    unfold impl_LineLine3 impl_coord3
    rw [sbind, sbind, sbind, sbind, l1, sbind]
  rw [Bool.not_true, br_false, sbind, sbind, sbind, sbind, sbind, sbind, il, sbind, br_true, qa, sbind, sbind, sbind, sbind, qb, sbind, qc, sbind, sbind, sbind, sbind, qd, sbind, x1, sbind, y1, sbind, num_q l2, sbind, y2, sbind, y3, sbind]
  rfl
end Go.Proofs.Ytmkhoplffiakmaa
