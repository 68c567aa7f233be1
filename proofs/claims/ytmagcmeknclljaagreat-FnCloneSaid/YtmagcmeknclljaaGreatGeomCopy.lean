/-
  Copies of numbers and of lists of numbers (impl.ints with two results: nil, or not empty). Ours.
-/
import Derived.Test.YtmagcmeknclljaaGreatGeomGood
namespace Go.Proofs.YtmagcmeknclljaaGreat
open Go.Sx
set_option linter.unusedVariables false
set_option linter.unusedSimpArgs false

theorem floats_is (k : Nat) (a : List Nat) (h : a.length ≤ 2147483647) : impl_floats k a = some a := by
  unfold impl_floats
  rw [apd_some (by simp; omega) (by simp; omega)]; rfl
theorem ints_nil (k : Nat) : impl_ints k [] = some (.inl ()) := rfl
theorem ints_cons (k : Nat) (a : List Int) (h : a.length ≤ 2147483647) (hn : a ≠ []) : impl_ints k a = some (.inr a) := by
  unfold impl_ints
  have : a.isEmpty = false := by cases a with | nil => exact absurd rfl hn | cons x r => rfl
  rw [this, br_false, apd_some (by simp; omega) (by simp; omega)]; rfl
theorem intss_is (k : Nat) (xs : List (List Int)) (h : xs.length ≤ 2147483647) (h' : ∀ x ∈ xs, x.length ≤ 2147483647) (hk : xs.length < k) : impl_intss k xs = some xs := by
  unfold impl_intss
  obtain ⟨y, hy, rfl⟩ := loop_inv (F := impl_intss_l1 xs) 0 (fun m p => p.2 = ((xs.length - m : Nat) : Int) ∧ m ≤ xs.length ∧ p.1 = xs.take (xs.length - m)) (fun y => y = xs) (by
    intro k m p _ hI
    obtain ⟨l, i⟩ := p
    obtain ⟨hi, hm, hl⟩ := hI
    simp only at hi hl
    subst hi hl
    have hs : impl_intss_l1 xs (k + 1) (xs.take (xs.length - m), ((xs.length - m : Nat) : Int)) = impl_intss_l1s xs k (impl_intss_l1 xs k) (xs.take (xs.length - m)) ((xs.length - m : Nat) : Int) := rfl
    rw [hs]
    unfold impl_intss_l1s
    by_cases e : m = 0
    · subst e
      rw [decide_eq_false (by omega), br_false]
      exact .inl ⟨_, rfl, by simp⟩
    · have hi : xs.length - m < xs.length := by omega
      have hl := h' _ (List.getElem_mem hi)
      have ht : xs.take (xs.length - m) ++ [xs[xs.length - m]] = xs.take (xs.length - (m - 1)) := by
        rw [show xs.length - (m - 1) = xs.length - m + 1 by omega, List.take_add_one, List.getElem?_eq_getElem hi]; rfl
      have hx : (((xs.length - m + 1 : Nat) : Int)) = ((xs.length - (m - 1) : Nat) : Int) := by congr 1; omega
      rw [decide_eq_true (by omega), br_true, idx_get hi, sbind]
      by_cases he : xs[xs.length - m] = []
      · rw [he] at ht ⊢
        rw [ints_nil, sbind]
        simp only
        rw [apd_some (by simp; omega) (by simp; omega), sbind, iadd_one (by omega), ht]
        exact .inr ⟨m - 1, _, by omega, ⟨hx, by omega, rfl⟩, rfl⟩
      · rw [ints_cons _ _ hl he, sbind]
        simp only
        rw [apd_some (by simp; omega) (by simp; omega), sbind, iadd_one (by omega), ht]
        exact .inr ⟨m - 1, _, by omega, ⟨hx, by omega, rfl⟩, rfl⟩) xs.length ([], 0) k ⟨by simp, Nat.le_refl _, by simp⟩ (by omega)
  rw [hy, sbind]
end Go.Proofs.YtmagcmeknclljaaGreat
