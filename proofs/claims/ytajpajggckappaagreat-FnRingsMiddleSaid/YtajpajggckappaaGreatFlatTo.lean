/-
  What flatTo tells of a row: its places, whole, and bounded. Ours.
-/
import Derived.Test.YtajpajggckappaaGreatPlaneTo
import Derived.Test.YtajpajggckappaaGreatSxY
namespace Go.Proofs.YtajpajggckappaaGreat
open Go.Sx
set_option linter.unusedVariables false
set_option linter.unusedSimpArgs false
set_option maxRecDepth 100000

theorem apd_some {α : Type} {b : Nat} {xs ys : List α} (h : (xs.length + ys.length) * b ≤ 140737488355328) (h' : xs.length + ys.length ≤ 4611686018427387904) : apd b xs ys = some (xs ++ ys) := by
  unfold apd; rw [if_pos ⟨h, h'⟩]
def pl (a : List Nat) (s j : Nat) : Nat → List (Nat × Nat)
  | 0 => []
  | n + 1 => (a.getD (j * s) 0, a.getD (j * s + 1) 0) :: pl a s (j + 1) n
theorem pl_length (a : List Nat) (s : Nat) : ∀ n j, (pl a s j n).length = n
  | 0, _ => rfl
  | n + 1, j => by simp [pl, pl_length a s n (j + 1)]
theorem pl_get (a : List Nat) (s : Nat) : ∀ n j i (h : i < (pl a s j n).length), (pl a s j n)[i] = (a.getD ((j + i) * s) 0, a.getD ((j + i) * s + 1) 0)
  | 0, _, _, h => by simp [pl] at h
  | n + 1, j, 0, _ => by simp [pl]
  | n + 1, j, i + 1, h => by
    simp only [pl, List.getElem_cons_succ]
    rw [pl_get a s n (j + 1) i (by simpa [pl] using h), show j + 1 + i = j + (i + 1) from by omega]
theorem pl_words (a : List Nat) (s : Nat) (ha : ∀ x ∈ a, x < 18446744073709551616) : ∀ n j, ∀ p ∈ pl a s j n, p.1 < 2 ^ 64 ∧ p.2 < 2 ^ 64 := by
  have hg : ∀ i, a.getD i 0 < 2 ^ 64 := fun i => by
    by_cases h : i < a.length
    · rw [show a.getD i 0 = a[i] from by simp [List.getD, List.getElem?_eq_getElem h]]
      have := ha _ (List.getElem_mem h); omega
    · rw [show a.getD i 0 = 0 from by simp [List.getD, List.getElem?_eq_none (by omega : a.length ≤ i)]]; omega
  intro n
  induction n with
  | zero => intro j p hp; simp [pl] at hp
  | succ n ih =>
    intro j p hp
    simp only [pl, List.mem_cons] at hp
    rcases hp with rfl | hp
    · exact ⟨hg _, hg _⟩
    · exact ih _ _ hp

theorem flat_loop (a : List Nat) (s T : Nat) (hs : 2 ≤ s ∧ s ≤ 8) (hT : a.length = T * s) (hTl : T ≤ 200) : ∀ (n j k : Nat) (L : List (Nat × Nat)), T - j = n → n < k → j ≤ T → L.length = j →
    laws_flatTo_l1 a (s : Int) k (L, ((j * s : Nat) : Int)) = some (L ++ pl a s j n) := by
  intro n
  induction n with
  | zero =>
    intro j k L hn hk hj hL
    obtain ⟨k, rfl⟩ : ∃ j, k = j + 1 := ⟨k - 1, by omega⟩
    have hge : ¬ j * s < a.length := by rw [hT]; have := Nat.mul_le_mul_right s (show T ≤ j by omega); omega
    simp only [laws_flatTo_l1, laws_flatTo_l1s, lt_false hge, br_false, pl, List.append_nil]
  | succ n ih =>
    intro j k L hn hk hj hL
    obtain ⟨k, rfl⟩ : ∃ j, k = j + 1 := ⟨k - 1, by omega⟩
    obtain ⟨i, hi⟩ : ∃ i, j * s = i := ⟨_, rfl⟩
    have hi2 : i + s ≤ a.length := by
      have := Nat.mul_le_mul_right s (show j + 1 ≤ T by omega)
      rw [Nat.add_mul, Nat.one_mul] at this; omega
    have hal : a.length ≤ 1600 := by rw [hT]; have := Nat.mul_le_mul hTl hs.2; omega
    have hnx : ((i + s : Nat) : Int) = (((j + 1) * s : Nat) : Int) := by rw [Nat.add_mul, Nat.one_mul, hi]
    have j1 : i < a.length := by omega
    have j3 : i + 1 < a.length := by omega
    have e3 : iadd .i64 (i : Int) 1 = ((i + 1 : Nat) : Int) := iadd_one (by omega)
    have e6 : iadd .i64 (i : Int) (s : Int) = ((i + s : Nat) : Int) := by rw [iadd_i64 (by omega) (by omega)]; omega
    have ha : apd 16 L [(a[i], a[i + 1])] = some (L ++ [(a[i], a[i + 1])]) := apd_some (by simp; omega) (by simp; omega)
    have g1 : a.getD i 0 = a[i] := by simp [List.getD, List.getElem?_eq_getElem j1]
    have g2 : a.getD (i + 1) 0 = a[i + 1] := by simp [List.getD, List.getElem?_eq_getElem j3]
    have := ih (j + 1) k (L ++ [(a[i], a[i + 1])]) (by omega) (by omega) (by omega) (by simp [hL])
    rw [← hnx] at this
    rw [hi]
    simp only [laws_flatTo_l1, laws_flatTo_l1s, lt_true j1, br_true, e3, e6, idx_get j1, idx_get j3, Option.bind_eq_bind, Option.bind_some, ha, this, pl]
    rw [hi, g1, g2, List.append_assoc]; rfl

def stri (a : Int) : Int := if a < 1 then 0 else if a = 1 then 2 else if a = 2 ∨ a = 3 then 3 else a
theorem stride_is (k : Nat) (a : Int) : spec_Stride k a = some (stri a) := by
  unfold spec_Stride spec_Stride_j1 stri
  by_cases h1 : a < 1
  · rw [decide_eq_true h1, if_pos h1]; rfl
  by_cases h2 : a = 1
  · subst h2; rfl
  by_cases h3 : a = 2
  · subst h3; rfl
  by_cases h4 : a = 3
  · subst h4; rfl
  rw [decide_eq_false h1, decide_eq_false h2, decide_eq_false h3, decide_eq_false h4, if_neg h1, if_neg h2, if_neg (by omega)]; rfl
theorem lstride_is (k : Nat) (a : Int) (h : 1 ≤ a) : gogeom_Layout_Stride k a = some (stri a) := by
  unfold gogeom_Layout_Stride stri
  by_cases h2 : a = 1
  · subst h2; rfl
  by_cases h3 : a = 2
  · subst h3; rfl
  by_cases h4 : a = 3
  · subst h4; rfl
  by_cases h5 : a = 4
  · subst h5; rfl
  rw [decide_eq_false (show ¬ a = 0 by omega), decide_eq_false h2, decide_eq_false h3, decide_eq_false h4, decide_eq_false h5, if_neg (by omega), if_neg h2, if_neg (by omega)]; rfl

theorem flatTo_is (wd b0 M : Nat) (hw : D wd (b0 : Int) 1074) (hb0 : b0 < 2 ^ 53) (hM : M ≤ 200) (k : Nat) (a0 : Int) (a1 : List Nat) (hl : a1.length ≤ 2147483647) (ha : ∀ x ∈ a1, x < 18446744073709551616) (hk : 1000 < k) :
    ∃ l b, laws_flatTo k a0 a1 wd M = some (l, b) ∧ l.length ≤ 200 ∧ (∀ p ∈ l, p.1 < 2 ^ 64 ∧ p.2 < 2 ^ 64) ∧
      (b = true → ∃ s T : Nat, stri a0 = (s : Int) ∧ 1 ≤ a0 ∧ 2 ≤ s ∧ s ≤ 8 ∧ a1.length = T * s ∧ T ≤ M ∧ l = pl a1 s 0 T ∧ ∀ p ∈ l, ∃ m n : Int, D p.1 m 1074 ∧ m.natAbs ≤ b0 ∧ D p.2 n 1074 ∧ n.natAbs ≤ b0) := by
  have none_ : ∃ l b, (some (([] : List (Nat × Nat)), false) : Option _) = some (l, b) ∧ l.length ≤ 200 ∧ (∀ p ∈ l, p.1 < 2 ^ 64 ∧ p.2 < 2 ^ 64) ∧
      (b = true → ∃ s T : Nat, stri a0 = (s : Int) ∧ 1 ≤ a0 ∧ 2 ≤ s ∧ s ≤ 8 ∧ a1.length = T * s ∧ T ≤ M ∧ l = pl a1 s 0 T ∧ ∀ p ∈ l, ∃ m n : Int, D p.1 m 1074 ∧ m.natAbs ≤ b0 ∧ D p.2 n 1074 ∧ n.natAbs ≤ b0) :=
    ⟨[], false, rfl, by simp, fun p hp => by simp at hp, fun h => by cases h⟩
  unfold laws_flatTo
  by_cases h1 : a0 < 1
  · rw [decide_eq_true h1, br_true]; unfold laws_flatTo_j1; rw [br_true]; exact none_
  rw [decide_eq_false h1, br_false]
  unfold laws_flatTo_j1
  by_cases h8 : 8 < a0
  · rw [decide_eq_true h8, br_true]; exact none_
  rw [decide_eq_false h8, br_false]
  obtain ⟨s, hs⟩ : ∃ s : Nat, stri a0 = (s : Int) := Int.eq_ofNat_of_zero_le (by unfold stri; repeat' split <;> omega)
  have hs2 : 2 ≤ s ∧ s ≤ 8 := by
    have h : 2 ≤ stri a0 ∧ stri a0 ≤ 8 := by unfold stri; repeat' split <;> omega
    omega
  have hstr : spec_Stride k a0 = some (s : Int) := by rw [stride_is, hs]
  rw [hstr, sbind]
  have hr : irem (a1.length : Int) (s : Int) = some ((a1.length % s : Nat) : Int) := by
    unfold irem; rw [if_neg (by omega), Int.tmod_eq_emod_of_nonneg (by omega)]; rfl
  rw [hr, sbind]
  unfold laws_flatTo_j2
  by_cases hm : a1.length % s = 0
  · rw [decide_eq_true (show ((a1.length % s : Nat) : Int) = 0 by omega), Bool.not_true, br_false]
    have e200 : imul .i64 (s : Int) (M : Int) = ((s * M : Nat) : Int) := by
      have h1 : s * M ≤ 8 * 200 := Nat.mul_le_mul hs2.2 hM
      have h2 : (s : Int) * (M : Int) = ((s * M : Nat) : Int) := by push_cast; rfl
      rw [imul_i64 (by omega) (by omega), h2]
    rw [e200]
    by_cases hb : s * M < a1.length
    · rw [lt_true hb, br_true]; exact none_
    · rw [lt_false hb, br_false]
      obtain ⟨T, hT, hTl⟩ : ∃ T, a1.length = T * s ∧ T ≤ M := by
        refine ⟨a1.length / s, (Nat.div_mul_cancel (Nat.dvd_of_mod_eq_zero hm)).symm, ?_⟩
        have := Nat.div_le_div_right (c := s) (show a1.length ≤ M * s by rw [Nat.mul_comm]; omega)
        rw [Nat.mul_div_cancel _ (by omega)] at this; exact this
      have hf := flat_loop a1 s T hs2 hT (by omega) T 0 k [] rfl (by omega) (by omega) rfl
      rw [Nat.zero_mul] at hf
      have hf' : laws_flatTo_l1 a1 (s : Int) k ([], 0) = some (pl a1 s 0 T) := by simpa using hf
      rw [hf', sbind]
      have hlen := pl_length a1 s T 0
      obtain ⟨r, r1, r2⟩ := planeTo_is (k := k) wd b0 hw hb0 (pl a1 s 0 T) (pl_words a1 s ha _ _) (by omega) (by omega)
      rw [r1, sbind]
      exact ⟨_, r, rfl, by omega, pl_words a1 s ha _ _, fun h => ⟨s, T, hs, by omega, hs2.1, hs2.2, hT, hTl, rfl, r2 h⟩⟩
  · rw [decide_eq_false (show ¬ ((a1.length % s : Nat) : Int) = 0 by omega), Bool.not_false, br_true, br_true]; exact none_

end Go.Proofs.YtajpajggckappaaGreat
