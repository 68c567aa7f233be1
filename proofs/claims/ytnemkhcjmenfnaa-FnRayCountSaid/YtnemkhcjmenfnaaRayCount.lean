/-
  The segments of a closed line tell where a place lies: the plain statement. Ours.
-/
import Derived.Test.YtnemkhcjmenfnaaRaySeg
import Derived.Test.YtnemkhcjmenfnaaPlaneTo
import Derived.Test.YtnemkhcjmenfnaaExacts
namespace Go.Proofs.Ytnemkhcjmenfnaa
open Go.Sx
open Ieee (signed)
set_option linter.unusedVariables false
set_option linter.unusedSimpArgs false
set_option maxRecDepth 100000

/-! #### exact numbers -/
abbrev Dx (s : Bool) (l : List Int) (e : Int) (M : Int) : Prop := Dr (-1074) 971 2 s l e (M * 2 ^ 1074)
theorem sgn_le (n : Int) : decide (sgn n ≤ 0) = decide (n ≤ 0) := by
  unfold sgn
  by_cases h : n < 0
  · rw [if_pos h]; simp; omega
  · rw [if_neg h]
    by_cases h2 : n = 0
    · subst h2; rfl
    · rw [if_neg h2]; simp; omega
theorem sgn_gt (n : Int) : decide (0 < sgn n) = decide (0 < n) := by
  unfold sgn
  by_cases h : n < 0
  · rw [if_pos h]; simp; omega
  · rw [if_neg h]
    by_cases h2 : n = 0
    · subst h2; rfl
    · rw [if_neg h2]; simp; omega
theorem sgn_eq (n : Int) : decide (sgn n = 0) = decide (n = 0) := by
  unfold sgn
  by_cases h : n < 0
  · rw [if_pos h]; simp; omega
  · rw [if_neg h]
    by_cases h2 : n = 0
    · subst h2; rfl
    · rw [if_neg h2]; simp; omega
theorem cmp_is {k : Nat} {s1 s2 : Bool} {l1 l2 : List Int} {e1 e2 M N : Int} (h1 : Dx s1 l1 e1 M) (h2 : Dx s2 l2 e2 N) (hk : 200 < k) : spec_Dyadic_Cmp k s1 l1 e1 s2 l2 e2 = some (sgn (M - N)) := by
  obtain ⟨s, l, e, q1, w1⟩ := dsub_is (k := k) h1 h2 (by decide) (by decide) (by decide) (by decide) (by simp; omega)
  unfold spec_Dyadic_Cmp
  rw [q1, sbind]
  dsimp only
  rw [dsign_is w1, sbind, ← Int.sub_mul, sgn_mul]
theorem orient_is {k : Nat} {s1 s2 s3 t1 t2 t3 : Bool} {l1 l2 l3 m1 m2 m3 : List Int} {e1 e2 e3 f1 f2 f3 ax ay bx by_ px py : Int} (h1 : Dx s1 l1 e1 ax) (g1 : Dx t1 m1 f1 ay) (h2 : Dx s2 l2 e2 bx) (g2 : Dx t2 m2 f2 by_) (h3 : Dx s3 l3 e3 px) (g3 : Dx t3 m3 f3 py) (hk : 1000 < k) :
    spec_Orient k s1 l1 e1 t1 m1 f1 s2 l2 e2 t2 m2 f2 s3 l3 e3 t3 m3 f3 = some (sgn (det px py ax ay bx by_)) := by
  obtain ⟨u1, n1, x1, q1, w1⟩ := dsub_is (k := k) h2 h1 (by decide) (by decide) (by decide) (by decide) (by simp; omega)
  obtain ⟨u2, n2, x2, q2, w2⟩ := dsub_is (k := k) g3 g1 (by decide) (by decide) (by decide) (by decide) (by simp; omega)
  obtain ⟨u3, n3, x3, q3, w3⟩ := dmul_is (k := k) w1 w2 (by decide) (by decide) (by decide) (by decide) (by decide) (by decide) (by simp; omega)
  obtain ⟨u4, n4, x4, q4, w4⟩ := dsub_is (k := k) g2 g1 (by decide) (by decide) (by decide) (by decide) (by simp; omega)
  obtain ⟨u5, n5, x5, q5, w5⟩ := dsub_is (k := k) h3 h1 (by decide) (by decide) (by decide) (by decide) (by simp; omega)
  obtain ⟨u6, n6, x6, q6, w6⟩ := dmul_is (k := k) w4 w5 (by decide) (by decide) (by decide) (by decide) (by decide) (by decide) (by simp; omega)
  obtain ⟨u7, n7, x7, q7, w7⟩ := dsub_is (k := k) w3 w6 (by decide) (by decide) (by decide) (by decide) (by simp; omega)
  unfold spec_Orient spec_Cross
  rw [q1, sbind, q2, sbind]
  dsimp only
  rw [q3, sbind, q4, sbind, q5, sbind]
  dsimp only
  rw [q6, sbind]
  dsimp only
  rw [q7, sbind, sbind]
  dsimp only
  rw [dsign_is w7, sbind]
  have : (bx * 2 ^ 1074 - ax * 2 ^ 1074) * (py * 2 ^ 1074 - ay * 2 ^ 1074) - (by_ * 2 ^ 1074 - ay * 2 ^ 1074) * (px * 2 ^ 1074 - ax * 2 ^ 1074) = det px py ax ay bx by_ * 2 ^ 1074 * 2 ^ 1074 := by
    generalize (2 : Int) ^ 1074 = P
    unfold det; grind
  rw [this, sgn_mul, sgn_mul]
theorem between_is {k : Nat} {s1 s2 s3 : Bool} {l1 l2 l3 : List Int} {e1 e2 e3 a b x : Int} (h1 : Dx s1 l1 e1 a) (h2 : Dx s2 l2 e2 b) (h3 : Dx s3 l3 e3 x) (hk : 1000 < k) :
    spec_Between k s1 l1 e1 s2 l2 e2 s3 l3 e3 = some (decide (Btw a b x)) := by
  unfold spec_Between spec_Between_j1 spec_Between_j2 spec_Between_j3
  rw [cmp_is h1 h3 (by omega), sbind, cmp_is h3 h2 (by omega), sbind, cmp_is h2 h3 (by omega), sbind, cmp_is h3 h1 (by omega), sbind]
  simp only [sgn_le]
  unfold Btw
  by_cases c1 : a - x ≤ 0 <;> by_cases c2 : x - b ≤ 0 <;> by_cases c3 : b - x ≤ 0 <;> by_cases c4 : x - a ≤ 0 <;> simp only [c1, c2, c3, c4, decide_true, decide_false, br_true, br_false] <;> first | exact congrArg some (decide_eq_true (by omega)).symm | exact congrArg some (decide_eq_false (by omega)).symm
theorem on_is {k : Nat} {s1 s2 s3 t1 t2 t3 : Bool} {l1 l2 l3 m1 m2 m3 : List Int} {e1 e2 e3 f1 f2 f3 ax ay bx by_ px py : Int} (h1 : Dx s1 l1 e1 ax) (g1 : Dx t1 m1 f1 ay) (h2 : Dx s2 l2 e2 bx) (g2 : Dx t2 m2 f2 by_) (h3 : Dx s3 l3 e3 px) (g3 : Dx t3 m3 f3 py) (hk : 1000 < k) :
    spec_OnSegment k s3 l3 e3 t3 m3 f3 s1 l1 e1 t1 m1 f1 s2 l2 e2 t2 m2 f2 = some (decide (OnS px py ax ay bx by_)) := by
  unfold spec_OnSegment spec_OnSegment_j1 spec_OnSegment_j2
  rw [orient_is h1 g1 h2 g2 h3 g3 hk, sbind, between_is h1 h2 h3 hk, sbind, between_is g1 g2 g3 hk, sbind, sgn_eq]
  unfold OnS
  by_cases c1 : det px py ax ay bx by_ = 0 <;> by_cases c2 : Btw ax bx px <;> by_cases c3 : Btw ay by_ py <;> simp [c1, c2, c3]

/-! #### the line -/
section
variable (X Y : Nat → Int) (px py : Int)
/-- the j-th segment: from the place j to the next one -/
abbrev ON (j : Nat) : Prop := OnS px py (X j) (Y j) (X (j + 1)) (Y (j + 1))
abbrev TG (j : Nat) : Bool := tog px py (X j) (Y j) (X (j + 1)) (Y (j + 1))
/-- whether the ray meets an odd number of d segments from the j-th on -/
def par : Nat → Nat → Bool
  | _, 0 => false
  | j, d + 1 => (TG X Y px py j) != par (j + 1) d
end

theorem locate_loop (X Y : Nat → Int) (px py : Int) (E : List Tup) (s3 t3 : Bool) (l3 m3 : List Int) (e3 f3 : Int) (h3 : Dx s3 l3 e3 px) (g3 : Dx t3 m3 f3 py) (hE : ∀ i (h : i < E.length), Dx E[i].1 E[i].2.1 E[i].2.2.1 (X i) ∧ Dx E[i].2.2.2.1 E[i].2.2.2.2.1 E[i].2.2.2.2.2 (Y i)) (hl : E.length < 1000000) :
    ∀ (d j k : Nat) (odd : Bool), j + 1 + d = E.length → 1000 + d < k →
    (∃ i, j ≤ i ∧ i < j + d ∧ ON X Y px py i) ∧ spec_Locate_l1 E s3 l3 e3 t3 m3 f3 k (odd, ((j + 1 : Nat) : Int)) = some (.inl ()) ∨
    (∀ i, j ≤ i → i < j + d → ¬ ON X Y px py i) ∧ spec_Locate_l1 E s3 l3 e3 t3 m3 f3 k (odd, ((j + 1 : Nat) : Int)) = some (.inr (odd != par X Y px py j d)) := by
  intro d
  induction d with
  | zero =>
    intro j k odd hd hk
    obtain ⟨k, rfl⟩ : ∃ i, k = i + 1 := ⟨k - 1, by omega⟩
    right
    refine ⟨fun i h1 h2 => by omega, ?_⟩
    rw [spec_Locate_l1]
    unfold spec_Locate_l1s
    dsimp only
    rw [lt_false (show ¬ (j + 1 < E.length) by omega), br_false]
    simp [par]
  | succ d ih =>
    intro j k odd hd hk
    obtain ⟨k, rfl⟩ : ∃ i, k = i + 1 := ⟨k - 1, by omega⟩
    have hj : j < E.length := by omega
    have hj1 : j + 1 < E.length := by omega
    obtain ⟨a1, a2⟩ := hE j hj
    obtain ⟨b1, b2⟩ := hE (j + 1) hj1
    have hsub : isub .i64 ((j + 1 : Nat) : Int) 1 = (j : Int) := by rw [isub_i64 (by omega) (by omega)]; omega
    have hstep : ∀ o : Bool, spec_Locate_j2 k (spec_Locate_l1 E s3 l3 e3 t3 m3 f3 k) ((j + 1 : Nat) : Int) o = spec_Locate_l1 E s3 l3 e3 t3 m3 f3 k (o, ((j + 1 + 1 : Nat) : Int)) := by
      intro o
      unfold spec_Locate_j2
      rw [iadd_one (show j + 1 < 9223372036854775807 by omega)]
    have hone : spec_Locate_l1 E s3 l3 e3 t3 m3 f3 (k + 1) (odd, ((j + 1 : Nat) : Int)) = if ON X Y px py j then some (.inl ()) else spec_Locate_l1 E s3 l3 e3 t3 m3 f3 k (odd != TG X Y px py j, ((j + 1 + 1 : Nat) : Int)) := by
      rw [spec_Locate_l1]
      unfold spec_Locate_l1s
      dsimp only
      rw [lt_true hj1, br_true, hsub, idx_get hj, sbind, idx_get hj1, sbind, on_is a1 a2 b1 b2 h3 g3 (by omega), sbind]
      by_cases ho : ON X Y px py j
      · rw [if_pos ho, decide_eq_true ho, br_true]
      · rw [if_neg ho, decide_eq_false ho, br_false, cmp_is a2 g3 (by omega), sbind, cmp_is b2 g3 (by omega), sbind, orient_is a1 a2 b1 b2 h3 g3 (by omega), sbind, sgn_gt, sgn_gt, sgn_gt, hstep, hstep]
        have e1 : decide (0 < Y j - py) = decide (py < Y j) := decide_eq_decide.2 (by omega)
        have e2 : decide (0 < Y (j + 1) - py) = decide (py < Y (j + 1)) := decide_eq_decide.2 (by omega)
        rw [e1, e2]
        unfold TG tog
        cases decide (py < Y j) <;> cases decide (py < Y (j + 1)) <;> cases decide (0 < det px py (X j) (Y j) (X (j + 1)) (Y (j + 1))) <;> cases odd <;> rfl
    rw [hone]
    by_cases ho : ON X Y px py j
    · left
      exact ⟨⟨j, by omega, by omega, ho⟩, by rw [if_pos ho]⟩
    · rw [if_neg ho]
      rcases ih (j + 1) k (odd != TG X Y px py j) (by omega) (by omega) with ⟨⟨i, h1, h2, h4⟩, h5⟩ | ⟨h1, h2⟩
      · left
        exact ⟨⟨i, by omega, by omega, h4⟩, h5⟩
      · right
        refine ⟨fun i h4 h5 => ?_, ?_⟩
        · by_cases hi : i = j
          · rw [hi]; exact ho
          · exact h1 i (by omega) (by omega)
        · rw [h2]
          simp only [par]
          congr 2
          cases odd <;> cases TG X Y px py j <;> cases par X Y px py (j + 1) d <;> rfl

theorem sum_loop (X Y : Nat → Int) (px py : Int) (l : List (Nat × Nat)) (p0 p1 : Nat) (d1 : D p0 px 1074) (d2 : D p1 py 1074) (m1 : px.natAbs ≤ 16777216) (m2 : py.natAbs ≤ 16777216)
    (hX : ∀ i (h : i < l.length), D l[i].1 (X i) 1074 ∧ (X i).natAbs ≤ 16777216 ∧ D l[i].2 (Y i) 1074 ∧ (Y i).natAbs ≤ 16777216) (hl : l.length < 1000) :
    ∀ (d j k : Nat) (sum : Nat) (found : Bool), j + 1 + d = l.length → 67108864 + d < k → sum < 2000 - d →
    ∃ (s : Nat) (f : Bool), laws_FnRayCount_l1 l p0 p1 k ((sum : Int), found, ((j + 1 : Nat) : Int)) = some (((s : Nat) : Int), f) ∧ s < 2000 ∧ (found = true → f = true) ∧ (f = true → found = true ∨ ∃ i, j ≤ i ∧ i < j + d ∧ ON X Y px py i) ∧
      (∀ i, j ≤ i → i < j + d → ON X Y px py i → (Y i = py ∧ X i = px) ∨ f = true) ∧ (∀ i, j ≤ i → i < j + d → px = X (i + 1) → py = Y (i + 1) → f = true) ∧
      ((∀ i, j ≤ i → i < j + d → ¬ ON X Y px py i) → (s % 2 = 1 ↔ ((decide (sum % 2 = 1)) != par X Y px py j d) = true)) := by
  intro d
  induction d with
  | zero =>
    intro j k sum found hd hk hs
    obtain ⟨k, rfl⟩ : ∃ i, k = i + 1 := ⟨k - 1, by omega⟩
    refine ⟨sum, found, ?_, by omega, id, .inl, fun i h1 h2 => by omega, fun i h1 h2 => by omega, fun _ => by simp [par]⟩
    rw [laws_FnRayCount_l1]
    unfold laws_FnRayCount_l1s
    dsimp only
    rw [lt_false (show ¬ (j + 1 < l.length) by omega), br_false]
  | succ d ih =>
    intro j k sum found hd hk hs
    obtain ⟨k, rfl⟩ : ∃ i, k = i + 1 := ⟨k - 1, by omega⟩
    have hj : j < l.length := by omega
    have hj1 : j + 1 < l.length := by omega
    obtain ⟨a1, a2, a3, a4⟩ := hX j hj
    obtain ⟨b1, b2, b3, b4⟩ := hX (j + 1) hj1
    have hsub : isub .i64 ((j + 1 : Nat) : Int) 1 = (j : Int) := by rw [isub_i64 (by omega) (by omega)]; omega
    obtain ⟨n, on, r1, r2, r3, r4, r5, r6⟩ := seg_is (k := k) (by omega) d1 d2 a1 a3 b1 b3 m1 m2 a2 a4 b2 b4
    obtain ⟨n', rfl, hn'⟩ : ∃ n' : Nat, n = (n' : Int) ∧ (n' = 0 ∨ n' = 1) := by
      rcases r2 with h | h
      · exact ⟨0, h, .inl rfl⟩
      · exact ⟨1, h, .inr rfl⟩
    have hadd : iadd .i64 (sum : Int) (n' : Int) = ((sum + n' : Nat) : Int) := by rw [iadd_i64 (by omega) (by omega)]; omega
    have hone : laws_FnRayCount_l1 l p0 p1 (k + 1) ((sum : Int), found, ((j + 1 : Nat) : Int)) = laws_FnRayCount_l1 l p0 p1 k (((sum + n' : Nat) : Int), (found || on), ((j + 1 + 1 : Nat) : Int)) := by
      rw [laws_FnRayCount_l1]
      unfold laws_FnRayCount_l1s
      dsimp only
      rw [lt_true hj1, br_true, hsub, idx_get hj, sbind, idx_get hj1, sbind, r1, sbind]
      unfold laws_FnRayCount_j4
      dsimp only
      rw [hadd, iadd_one (show j + 1 < 9223372036854775807 by omega)]
      cases found <;> rfl
    obtain ⟨s, f, t1, t2, t3, t4, t5, t6, t7⟩ := ih (j + 1) k (sum + n') (found || on) (by omega) (by omega) (by omega)
    refine ⟨s, f, hone.trans t1, t2, fun h => t3 (by rw [h]; rfl), fun h => ?_, fun i h1 h2 h4 => ?_, fun i h1 h2 h4 h5 => ?_, fun h => ?_⟩
    · rcases t4 h with h1 | ⟨i, h1, h2, h4⟩
      · cases found with
        | true => exact .inl rfl
        | false => exact .inr ⟨j, by omega, by omega, r3 (by simpa using h1)⟩
      · exact .inr ⟨i, by omega, by omega, h4⟩
    · by_cases hi : i = j
      · subst hi
        cases on with
        | false => exact .inl (r4 h4 rfl)
        | true => exact .inr (t3 (by simp))
      · exact t5 i (by omega) (by omega) h4
    · by_cases hi : i = j
      · subst hi
        have := r5 h4 h5
        exact t3 (by rw [this]; simp)
      · exact t6 i (by omega) (by omega) h4 h5
    · have h1 := t7 fun i h4 h5 => h i (by omega) (by omega)
      have h2 := r6 (h j (by omega) (by omega))
      rw [h1]
      simp only [par]
      have h3 : (decide ((sum + n') % 2 = 1)) = ((decide (sum % 2 = 1)) != TG X Y px py j) := by
        rcases hn' with e | e
        · have : TG X Y px py j = false := by
            cases ht : TG X Y px py j with
            | false => rfl
            | true => exact absurd (h2.2 ht) (by rw [e]; decide)
          rw [this, e, Nat.add_zero]; simp
        · have : TG X Y px py j = true := h2.1 (by rw [e]; rfl)
          rw [this, e]
          by_cases hp : sum % 2 = 1
          · rw [decide_eq_true hp, decide_eq_false (show ¬ ((sum + 1) % 2 = 1) by omega)]; rfl
          · rw [decide_eq_false hp, decide_eq_true (show (sum + 1) % 2 = 1 by omega)]; rfl
      rw [h3]
      cases decide (sum % 2 = 1) <;> cases TG X Y px py j <;> cases par X Y px py (j + 1) d <;> simp

/-! #### the law -/
theorem getD_get {α : Type} {l : List α} {i : Nat} {d : α} (h : i < l.length) : l.getD i d = l[i] := by simp [List.getD, List.getElem?_eq_getElem h]
theorem shut_is (k : Nat) (l : List (Nat × Nat)) (hl : l.length ≤ 2147483647) : ∃ b, laws_shut k l = some b ∧ (b = true → 1 < l.length ∧ feq (l.getD 0 (0, 0)).1 (l.getD (l.length - 1) (0, 0)).1 = true ∧ feq (l.getD 0 (0, 0)).2 (l.getD (l.length - 1) (0, 0)).2 = true) := by
  unfold laws_shut
  by_cases h : (1 : Int) < (l.length : Int)
  · have i0 : idx l 0 = some (l.getD 0 (0, 0)) := by rw [getD_get (show 0 < l.length by omega)]; exact idx_get (show 0 < l.length by omega)
    have i1 : idx l (isub .i64 (l.length : Int) 1) = some (l.getD (l.length - 1) (0, 0)) := by
      rw [isub_i64 (by omega) (by omega), show (l.length : Int) - 1 = ((l.length - 1 : Nat) : Int) from by omega, getD_get (show l.length - 1 < l.length by omega)]
      exact idx_get (show l.length - 1 < l.length by omega)
    rw [decide_eq_true h, br_true, i0, sbind, i1, sbind]
    refine ⟨_, rfl, fun hb => ?_⟩
    simp only [Bool.and_true, Bool.and_eq_true] at hb
    exact ⟨by omega, hb.1, hb.2⟩
  · exact ⟨false, by rw [decide_eq_false h]; rfl, by simp⟩
theorem places_of (l : List (Nat × Nat)) (b : Nat) (h : ∀ x ∈ l, ∃ m n : Int, D x.1 m 1074 ∧ m.natAbs ≤ b ∧ D x.2 n 1074 ∧ n.natAbs ≤ b) :
    ∃ X Y : Nat → Int, ∀ i (hi : i < l.length), D l[i].1 (X i) 1074 ∧ (X i).natAbs ≤ b ∧ D l[i].2 (Y i) 1074 ∧ (Y i).natAbs ≤ b := by
  have hex : ∀ i (hi : i < l.length), ∃ q : Int × Int, D l[i].1 q.1 1074 ∧ q.1.natAbs ≤ b ∧ D l[i].2 q.2 1074 ∧ q.2.natAbs ≤ b := fun i hi => by
    obtain ⟨m, n, h1⟩ := h _ (List.getElem_mem hi)
    exact ⟨(m, n), h1⟩
  refine ⟨fun i => if hi : i < l.length then (Classical.choose (hex i hi)).1 else 0, fun i => if hi : i < l.length then (Classical.choose (hex i hi)).2 else 0, fun i hi => ?_⟩
  simp only [hi, dif_pos]
  exact Classical.choose_spec (hex i hi)
theorem main (k : Nat) (p0 p1 : Nat) (l : List (Nat × Nat)) (hk : 68000000 < k) (g1 : p0 < 2 ^ 64) (g2 : p1 < 2 ^ 64) (g3 : ∀ x ∈ l, x.1 < 2 ^ 64 ∧ x.2 < 2 ^ 64) : laws_FnRayCount k p0 p1 l = some true := by
  unfold laws_FnRayCount
  by_cases hlen : (2147483647 : Int) < (l.length : Int)
  · rw [decide_eq_true hlen, br_true]
  rw [decide_eq_false hlen, br_false]
  obtain ⟨b, s1, s2⟩ := shut_is k l (by omega)
  rw [s1, sbind]
  unfold laws_FnRayCount_j1 laws_FnRayCount_j2
  cases b with
  | false => rfl
  | true =>
    rw [Bool.not_true, br_false]
    by_cases h100 : (100 : Int) < (l.length : Int)
    · rw [decide_eq_true h100]; rfl
    rw [decide_eq_false h100, br_false]
    obtain ⟨hl1, hf1, hf2⟩ := s2 rfl
    have hw : D 4715268809856909312 ((16777216 : Nat) : Int) 1074 := D_two 24 (by decide)
    obtain ⟨b1, q1, q2⟩ := planeTo_is (k := k) 4715268809856909312 16777216 hw (by decide) l g3 (by omega) (by omega)
    obtain ⟨b2, q3, q4⟩ := planeTo_is (k := k) 4715268809856909312 16777216 hw (by decide) [(p0, p1)] (fun x hx => by
      simp at hx; subst hx; exact ⟨g1, g2⟩) (by simp; omega) (by simp)
    rw [q1, sbind]
    cases b1 with
    | false => rfl
    | true =>
      rw [Bool.not_true, br_false, q3, sbind]
      unfold laws_FnRayCount_j3
      cases b2 with
      | false => rfl
      | true =>
        rw [Bool.not_true, br_false]
        obtain ⟨px, py, d1, m1, d2, m2⟩ := q4 rfl (p0, p1) (by simp)
        dsimp only at d1 d2
        obtain ⟨X, Y, hX⟩ := places_of l 16777216 (fun x hx => q2 rfl x hx)
        obtain ⟨E, F, G, r1, r2, r3⟩ := exacts_is k l (by omega) g3 (by omega)
        obtain ⟨t, M, N, u1, u2, u3, u4, u5⟩ := exact_one k p0 p1 g1 g2 (by omega)
        have hE : ∀ i (h : i < E.length), Dx E[i].1 E[i].2.1 E[i].2.2.1 (X i) ∧ Dx E[i].2.2.2.1 E[i].2.2.2.2.1 E[i].2.2.2.2.2 (Y i) := by
          intro i h
          obtain ⟨v1, v2, v3, v4⟩ := r3 i (by omega) h
          obtain ⟨x1, x2, x3, x4⟩ := hX i (by omega)
          rw [v3 _ x1] at v1
          rw [v4 _ x3] at v2
          exact ⟨v1, v2⟩
        rw [u4 _ d1] at u2
        rw [u5 _ d2] at u3
        obtain ⟨n, hn⟩ : ∃ n, l.length = n + 1 + 1 := ⟨l.length - 2, by omega⟩
        have hloc := locate_loop X Y px py E _ _ _ _ _ _ u2 u3 hE (by omega) (n + 1) 0 k false (by omega) (by omega)
        obtain ⟨s, f, w1, w2, w3, w4, w5, w6, w7⟩ := sum_loop X Y px py l p0 p1 d1 d2 m1 m2 hX (by omega) (n + 1) 0 k 0 false (by omega) (by omega) (by omega)
        have w1' : laws_FnRayCount_l1 l p0 p1 k (0, false, 1) = some ((s : Int), f) := w1
        have hclosed : X 0 = X (n + 1) ∧ Y 0 = Y (n + 1) := by
          have e0 : l.getD 0 (0, 0) = l[0] := getD_get (by omega)
          have e1 : l.getD (l.length - 1) (0, 0) = l[n + 1] := by
            rw [getD_get (show l.length - 1 < l.length by omega)]; congr 1; omega
          rw [e0, e1] at hf1 hf2
          obtain ⟨x1, x2, x3, x4⟩ := hX 0 (by omega)
          obtain ⟨y1, y2, y3, y4⟩ := hX (n + 1) (by omega)
          rw [D_eq x1 y1] at hf1
          rw [D_eq x3 y3] at hf2
          exact ⟨by simpa using hf1, by simpa using hf2⟩
        rw [r1, sbind, u1, sbind]
        unfold spec_Locate
        have hloc1 : ∀ r, spec_Locate_l1 E t.1 t.2.1 t.2.2.1 t.2.2.2.1 t.2.2.2.2.1 t.2.2.2.2.2 k (false, ((0 + 1 : Nat) : Int)) = r → spec_Locate_l1 E t.1 t.2.1 t.2.2.1 t.2.2.2.1 t.2.2.2.2.1 t.2.2.2.2.2 k (false, 1) = r := fun r h => h
        rcases hloc with ⟨⟨i, h1, h2, h4⟩, h5⟩ | ⟨h4, h5⟩
        · rw [hloc1 _ h5, sbind]
          dsimp only
          rw [sbind, w1', sbind, show decide ((1 : Int) = 1) = true from rfl, br_true]
          have hf : f = true := by
            rcases w5 i h1 h2 h4 with ⟨a1, a2⟩ | h6
            · by_cases hi : i = 0
              · subst hi
                exact w6 n (by omega) (by omega) (by rw [← hclosed.1]; exact a2.symm) (by rw [← hclosed.2]; exact a1.symm)
              · exact w6 (i - 1) (by omega) (by omega) (by rw [show i - 1 + 1 = i from by omega]; exact a2.symm) (by rw [show i - 1 + 1 = i from by omega]; exact a1.symm)
            · exact h6
          rw [hf]
        · rw [hloc1 _ h5, sbind]
          dsimp only
          have hf : f = false := by
            cases hff : f with
            | false => rfl
            | true =>
              exfalso
              rcases w4 hff with h6 | ⟨i, h6, h7, h8⟩
              · cases h6
              · exact h4 i h6 h7 h8
          have hpar := w7 fun i a b => h4 i a b
          have hrem : irem (s : Int) 2 = some ((s % 2 : Nat) : Int) := by
            unfold irem
            rw [if_neg (by decide)]
            congr 1
          have z0 : (decide ((0 : Nat) % 2 = 1)) = false := by decide
          rw [z0] at hpar
          cases hp : par X Y px py 0 (n + 1) with
          | false =>
            rw [hp] at hpar
            have hs : s % 2 = 0 := by
              have : ¬ (s % 2 = 1) := fun h => by have := hpar.1 h; cases this
              omega
            rw [show (false != false) = false from rfl, br_false, sbind, w1', sbind, show decide ((2 : Int) = 1) = false from rfl, br_false]
            dsimp only
            rw [hf, Bool.not_false, br_true, hrem, sbind, hs]
            rfl
          | true =>
            rw [hp] at hpar
            have hs : s % 2 = 1 := hpar.2 rfl
            rw [show (false != true) = true from rfl, br_true, sbind, w1', sbind, show decide ((0 : Int) = 1) = false from rfl, br_false]
            dsimp only
            rw [hf, Bool.not_false, br_true, hrem, sbind, hs]
            rfl
theorem fact_FnRayCount (a0 a1 : Nat) (l : List (Nat × Nat)) (g0 : a0 < 18446744073709551616 ∧ a1 < 18446744073709551616) (g1 : l.length ≤ maxLen ∧ ∀ x ∈ l, x.1 < 18446744073709551616 ∧ x.2 < 18446744073709551616) :
    laws_FnRayCount 70000000 a0 a1 l = some true := main 70000000 a0 a1 l (by decide) g0.1 g0.2 g1.2
end Go.Proofs.Ytnemkhcjmenfnaa
