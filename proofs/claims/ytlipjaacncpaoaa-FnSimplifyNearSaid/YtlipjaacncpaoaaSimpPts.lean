/-
  The law's points: whole numbers of at most 2^13, in words and exactly. Ours.
-/
import Derived.Test.YtlipjaacncpaoaaNotFar2
import Derived.Test.YtlipjaacncpaoaaWholeTo
namespace Go.Proofs.Ytlipjaacncpaoaa
open Go.Sx
open Ieee (signed)
set_option linter.unusedVariables false
set_option linter.unusedSimpArgs false
set_option maxRecDepth 100000

def Good (cs : List Nat) (st i : Nat) (p : Int × Int) : Prop := D (cs.getD (i * st) 0) p.1 1074 ∧ D (cs.getD (i * st + 1) 0) p.2 1074 ∧ p.1.natAbs ≤ 8192 ∧ p.2.natAbs ≤ 8192
theorem D_8192 : D 4665729213955833856 ((8192 : Nat) : Int) 1074 := by
  have := D_two 13 (by decide); exact this
theorem D_16384 : D 4670232813583204352 ((16384 : Nat) : Int) 1074 := by
  have := D_two 14 (by decide); exact this
theorem getD_of {α : Type} {l : List α} {i : Nat} {d : α} (h : i < l.length) : l[i] = l.getD i d := by simp [List.getD, List.getElem?_eq_getElem h]
theorem idx_getd {cs : List Nat} {i : Nat} (h : i < cs.length) : idx cs (i : Int) = some (cs.getD i 0) := by rw [idx_get h, getD_of h]
theorem getD_lt {cs : List Nat} (hc : ∀ x ∈ cs, x < 2 ^ 64) (i : Nat) : cs.getD i 0 < 2 ^ 64 := by
  by_cases h : i < cs.length
  · rw [← getD_of h]; exact hc _ (List.getElem_mem h)
  · simp [List.getD, List.getElem?_eq_none (Nat.le_of_not_lt h)]
theorem at_lt {N st i : Nat} (hi : i < N) (h2 : 2 ≤ st) : i * st + 1 < N * st ∧ i * st + st ≤ N * st ∧ (i + 1) * st = i * st + st := by
  have := Nat.mul_le_mul_right st (show i + 1 ≤ N by omega)
  rw [Nat.add_mul, Nat.one_mul] at this
  refine ⟨by omega, this, ?_⟩
  rw [Nat.add_mul, Nat.one_mul]
theorem fp_loop {cs : List Nat} {st N : Nat} (hc : ∀ x ∈ cs, x < 2 ^ 64) (hl : cs.length = N * st) (hN : N ≤ 60) (h2 : 2 ≤ st) (h8 : st ≤ 8) : ∀ (n k j : Nat), N - j = n → n + 10 < k → j ≤ N →
    ∃ y, laws_flatPoints_l1 cs (st : Int) k ((j * st : Nat) : Int) = some y ∧ (y = .inr () → ∀ i, j ≤ i → i < N → ∃ p, Good cs st i p)
  | n, 0, j, _, h, _ => absurd h (by omega)
  | n, k + 1, j, hn, hk, hj => by
    have hNs : N * st ≤ 60 * 8 := Nat.mul_le_mul hN h8
    simp only [laws_flatPoints_l1, laws_flatPoints_l1s]
    by_cases hlt : j < N
    · obtain ⟨b1, b2, b3⟩ := at_lt hlt h2
      have a1 : iadd .i64 ((j * st : Nat) : Int) 1 = ((j * st + 1 : Nat) : Int) := iadd_one (by omega)
      have a2 : iadd .i64 ((j * st : Nat) : Int) (st : Int) = (((j + 1) * st : Nat) : Int) := by rw [iadd_i64 (by omega) (by omega)]; omega
      obtain ⟨r, r1, r2⟩ := wholeTo_is (k := k) 4665729213955833856 8192 D_8192 (by decide) [cs.getD (j * st) 0, cs.getD (j * st + 1) 0] (by
        intro x hx
        rcases List.mem_cons.1 hx with rfl | hx
        · exact getD_lt hc _
        · rcases List.mem_cons.1 hx with rfl | hx
          · exact getD_lt hc _
          · cases hx) (by simp; omega) (by simp)
      rw [lt_true (show j * st < cs.length by omega), br_true, idx_getd (by omega), sbind, a1, idx_getd (by omega), sbind, r1, sbind]
      cases r with
      | false => exact ⟨.inl (), rfl, fun h => by cases h⟩
      | true =>
        rw [Bool.not_true, br_false, a2]
        obtain ⟨y, y1, y2⟩ := fp_loop hc hl hN h2 h8 (n - 1) k (j + 1) (by omega) (by omega) (by omega)
        refine ⟨y, y1, fun hy i h1 h3 => ?_⟩
        rcases Nat.lt_or_ge j i with h | h
        · exact y2 hy i h h3
        · have : i = j := by omega
          subst this
          obtain ⟨X, x1, x2⟩ := r2 rfl (cs.getD (i * st) 0) (by simp)
          obtain ⟨Y, z1, z2⟩ := r2 rfl (cs.getD (i * st + 1) 0) (by simp)
          exact ⟨(X, Y), x1, z1, x2, z2⟩
    · have : j = N := by omega
      subst this
      rw [lt_false (by omega), br_false]
      exact ⟨.inr (), rfl, fun _ i h1 h3 => by omega⟩
def six0 : Six := (false, [], 0, false, [], 0)
theorem pl_loop {cs : List Nat} {st N : Nat} (hc : ∀ x ∈ cs, x < 2 ^ 64) (hl : cs.length = N * st) (hN : N ≤ 60) (h2 : 2 ≤ st) (h8 : st ≤ 8) (XY : Nat → Int × Int) (hg : ∀ i, i < N → Good cs st i (XY i)) : ∀ (n k j : Nat) (acc : List Six), N - j = n → n + 10 < k → j ≤ N → acc.length = j →
    (∀ i, i < j → Pt (cs.getD (i * st) 0) (cs.getD (i * st + 1) 0) (acc.getD i six0) (XY i).1 (XY i).2) →
    ∃ pts, spec_Places_l1 (st : Int) cs k (acc, ((j * st : Nat) : Int)) = some pts ∧ pts.length = N ∧ ∀ i, i < N → Pt (cs.getD (i * st) 0) (cs.getD (i * st + 1) 0) (pts.getD i six0) (XY i).1 (XY i).2
  | n, 0, j, _, _, h, _, _, _ => absurd h (by omega)
  | n, k + 1, j, acc, hn, hk, hj, ha, hp => by
    have hNs : N * st ≤ 60 * 8 := Nat.mul_le_mul hN h8
    simp only [spec_Places_l1, spec_Places_l1s]
    rw [decide_eq_true (show (1 : Int) < (st : Int) by omega), br_true]
    unfold spec_Places_j2
    by_cases hlt : j < N
    · obtain ⟨b1, b2, b3⟩ := at_lt hlt h2
      have a1 : iadd .i64 ((j * st : Nat) : Int) 1 = ((j * st + 1 : Nat) : Int) := iadd_one (by omega)
      have a2 : iadd .i64 ((j * st : Nat) : Int) (st : Int) = (((j + 1) * st : Nat) : Int) := by rw [iadd_i64 (by omega) (by omega)]; omega
      obtain ⟨g1, g2, g3, g4⟩ := hg j hlt
      obtain ⟨s1, l1, e1, q1, w1⟩ := dyadicOf_is (k := k) (getD_lt hc _) g1 (by omega)
      obtain ⟨s2, l2, e2, q2, w2⟩ := dyadicOf_is (k := k) (getD_lt hc _) g2 (by omega)
      rw [a2, decide_eq_true (show (((j + 1) * st : Nat) : Int) ≤ (cs.length : Int) by omega), br_true, idx_getd (by omega), sbind, a1, idx_getd (by omega), sbind]
      unfold spec_PointOf
      simp only [q1, q2, sbind]
      rw [show apd 80 acc [(s1, l1, e1, s2, l2, e2)] = some (acc ++ [(s1, l1, e1, s2, l2, e2)]) from by unfold apd; rw [if_pos (by constructor <;> (simp; omega))], sbind]
      refine pl_loop hc hl hN h2 h8 XY hg (n - 1) k (j + 1) _ (by omega) (by omega) (by omega) (by simp [ha]) ?_
      intro i hi
      rcases Nat.lt_or_ge i j with h | h
      · have := hp i h
        rw [show (acc ++ [(s1, l1, e1, s2, l2, e2)]).getD i six0 = acc.getD i six0 from by simp [List.getD, List.getElem?_append_left (show i < acc.length by omega)]]
        exact this
      · have : i = j := by omega
        subst this
        rw [show (acc ++ [(s1, l1, e1, s2, l2, e2)]).getD i six0 = (s1, l1, e1, s2, l2, e2) from by simp [List.getD, ← ha]]
        exact ⟨g1, g2, g3, g4, w1, w2⟩
    · have hjN : j = N := by omega
      subst hjN
      have a2 : iadd .i64 ((j * st : Nat) : Int) (st : Int) = ((j * st + st : Nat) : Int) := by rw [iadd_i64 (by omega) (by omega)]; omega
      rw [a2, decide_eq_false (show ¬ ((j * st + st : Nat) : Int) ≤ (cs.length : Int) by omega), br_false]
      exact ⟨acc, rfl, ha, hp⟩
theorem flatPoints_is {k : Nat} (hk : 1000 < k) (a0 : Int) (cs : List Nat) (hc : ∀ x ∈ cs, x < 2 ^ 64) (hlen : cs.length ≤ 2147483647) :
    ∃ pts ok, laws_flatPoints k a0 cs = some (pts, ok) ∧ (ok = true → ∃ st N : Nat, a0 = (st : Int) ∧ 2 ≤ st ∧ st ≤ 8 ∧ cs.length = N * st ∧ N ≤ 60 ∧ pts.length = N ∧
      ∃ XY : Nat → Int × Int, ∀ i, i < N → Pt (cs.getD (i * st) 0) (cs.getD (i * st + 1) 0) (pts.getD i six0) (XY i).1 (XY i).2) := by
  have bad : ∃ pts ok, (some ([], false) : Option (List Six × Bool)) = some (pts, ok) ∧ (ok = true → ∃ st N : Nat, a0 = (st : Int) ∧ 2 ≤ st ∧ st ≤ 8 ∧ cs.length = N * st ∧ N ≤ 60 ∧ pts.length = N ∧
      ∃ XY : Nat → Int × Int, ∀ i, i < N → Pt (cs.getD (i * st) 0) (cs.getD (i * st + 1) 0) (pts.getD i six0) (XY i).1 (XY i).2) := ⟨[], false, rfl, fun h => by cases h⟩
  unfold laws_flatPoints laws_flatPoints_j1 laws_flatPoints_j2 laws_flatPoints_j3
  by_cases h1 : a0 < 2
  · rw [decide_eq_true h1]; exact bad
  rw [decide_eq_false h1, br_false]
  by_cases h2 : 8 < a0
  · rw [decide_eq_true h2]; exact bad
  rw [decide_eq_false h2, br_false]
  obtain ⟨st, rfl⟩ : ∃ st : Nat, a0 = (st : Int) := ⟨a0.toNat, by omega⟩
  have hr : irem (cs.length : Int) (st : Int) = some ((cs.length % st : Nat) : Int) := by
    unfold irem; rw [if_neg (by omega), Int.tmod_eq_emod_of_nonneg (by omega)]; rfl
  rw [hr, sbind]
  by_cases h3 : ¬ cs.length % st = 0
  · rw [decide_eq_false (show ¬ ((cs.length % st : Nat) : Int) = 0 by omega)]; exact bad
  have h3 := Decidable.not_not.1 h3
  rw [decide_eq_true (show ((cs.length % st : Nat) : Int) = 0 by omega), Bool.not_true, br_false]
  have hm : imul .i64 60 (st : Int) = ((60 * st : Nat) : Int) := by
    unfold imul; rw [wrap_i64 (by omega) (by omega)]; omega
  rw [hm]
  by_cases h4 : 60 * st < cs.length
  · rw [decide_eq_true (show ((60 * st : Nat) : Int) < (cs.length : Int) by omega)]; exact bad
  rw [decide_eq_false (show ¬ ((60 * st : Nat) : Int) < (cs.length : Int) by omega), br_false]
  obtain ⟨N, hN⟩ : ∃ N, cs.length / st = N := ⟨_, rfl⟩
  have hl : cs.length = N * st := by rw [← hN]; exact (Nat.div_mul_cancel (Nat.dvd_of_mod_eq_zero h3)).symm
  have hN60 : N ≤ 60 := by
    rcases Nat.lt_or_ge 60 N with h | h
    · have := Nat.mul_lt_mul_of_pos_right h (show 0 < st by omega); omega
    · exact h
  obtain ⟨y, y1, y2⟩ := fp_loop hc hl hN60 (by omega) (by omega) N k 0 (by omega) (by omega) (by omega)
  rw [Nat.zero_mul] at y1
  have y1' : laws_flatPoints_l1 cs (st : Int) k 0 = some y := y1
  rw [y1', sbind]
  cases y with
  | inl u => exact bad
  | inr u =>
    have hg : ∀ i, ∃ p : Int × Int, i < N → Good cs st i p := fun i => by
      by_cases h : i < N
      · obtain ⟨p, hp⟩ := y2 rfl i (by omega) h; exact ⟨p, fun _ => hp⟩
      · exact ⟨(0, 0), fun h' => absurd h' h⟩
    obtain ⟨XY, hXY⟩ := Classical.axiomOfChoice hg
    obtain ⟨pts, p1, p2, p3⟩ := pl_loop hc hl hN60 (by omega) (by omega) XY hXY N k 0 [] (by omega) (by omega) (by omega) rfl (fun i h => by omega)
    rw [Nat.zero_mul] at p1
    have p1' : spec_Places_l1 (st : Int) cs k ([], 0) = some pts := p1
    unfold spec_Places
    simp only [p1', sbind]
    exact ⟨pts, true, rfl, fun _ => ⟨st, N, rfl, by omega, by omega, hl, hN60, p2, XY, p3⟩⟩
end Go.Proofs.Ytlipjaacncpaoaa
