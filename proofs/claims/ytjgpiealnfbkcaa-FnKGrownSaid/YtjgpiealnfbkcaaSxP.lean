/-
  Plain lemmas: numbers, lists, floats as words. Ours; it knows no program.
-/
import Derived.Test.YtjgpiealnfbkcaaSxH
namespace Go.Sx
set_option linter.unusedVariables false
set_option linter.unusedSimpArgs false

/-! ### integers -/
theorem wrap_i64 {n : Int} (h1 : -9223372036854775808 ≤ n) (h2 : n < 9223372036854775808) : IntKind.wrap .i64 n = n := by
  simp only [IntKind.wrap, IntKind.signed, IntKind.bits]
  by_cases h : 0 ≤ n
  · have : n % (2 ^ 64 : Int) = n := Int.emod_eq_of_lt h (by omega)
    simp only [this]
    rw [if_neg (by simp; omega)]
  · have : n % (2 ^ 64 : Int) = n + 2 ^ 64 := by
      rw [← Int.add_emod_right]
      exact Int.emod_eq_of_lt (by omega) (by omega)
    simp only [this]
    rw [if_pos (by simp; omega)]
    omega
theorem iadd_i64 {a b : Int} (h1 : -9223372036854775808 ≤ a + b) (h2 : a + b < 9223372036854775808) : iadd .i64 a b = a + b := wrap_i64 h1 h2
theorem idx_get {α : Type} {xs : List α} {i : Nat} (h : i < xs.length) : idx xs (i : Int) = some xs[i] := by
  simp [idx, h]
@[simp] theorem br_true {α : Type} (x y : α) : br true x y = x := rfl
@[simp] theorem br_false {α : Type} (x y : α) : br false x y = y := rfl
def fnan (x : Nat) : Bool := (FloatKind.f64.decode x).isNaN
theorem cmp_swap (a b : Int) : compare b a = (compare a b).swap := Int.instTransOrd.toOrientedCmp.eq_swap (a := b) (b := a)

theorem order_swap (x y : Nat) : FloatKind.f64.format.order y x = (FloatKind.f64.format.order x y).map Ordering.swap := by
  unfold Ieee.Format.order
  generalize FloatKind.f64.format.read x = a
  generalize FloatKind.f64.format.read y = b
  cases a with
  | nan s t => cases b <;> simp [Ieee.Datum.order]
  | infinity s =>
    cases b with
    | nan s t => simp [Ieee.Datum.order]
    | infinity t => cases s <;> cases t <;> rfl
    | number t n j => cases s <;> rfl
  | number s m i =>
    cases b with
    | nan s t => simp [Ieee.Datum.order]
    | infinity t => cases t <;> rfl
    | number t n j =>
      simp only [Ieee.Datum.order, Option.map_some]
      rw [show min j i = min i j from Int.min_comm j i, cmp_swap]

theorem fge_fle (x y : Nat) : fge x y = fle y x := by
  unfold fge fle
  rw [order_swap y x]
  cases FloatKind.f64.format.order y x with
  | none => rfl
  | some o => cases o <;> rfl
theorem fne_feq (x y : Nat) : fne x y = !feq x y := rfl
theorem sbind {α β : Type} (a : α) (f : α → Option β) : (some a >>= f) = f a := rfl

/-! #### loops, by the rounds that are left -/
theorem loop_inv {X Y : Type} {F : Nat → X → Option Y} (kmin : Nat) (I : Nat → X → Prop) (Q : Y → Prop)
    (step : ∀ k m x, kmin ≤ k → I m x → (∃ y, F (k + 1) x = some y ∧ Q y) ∨ (∃ m' x', m = m' + 1 ∧ I m' x' ∧ F (k + 1) x = F k x')) :
    ∀ m x k, I m x → m + kmin < k → ∃ y, F k x = some y ∧ Q y := by
  intro m
  induction m with
  | zero =>
    intro x k hI hk
    obtain ⟨k, rfl⟩ : ∃ j, k = j + 1 := ⟨k - 1, by omega⟩
    rcases step k 0 x (by omega) hI with h | ⟨m', _, h, _⟩
    · exact h
    · omega
  | succ m ih =>
    intro x k hI hk
    obtain ⟨k, rfl⟩ : ∃ j, k = j + 1 := ⟨k - 1, by omega⟩
    rcases step k (m + 1) x (by omega) hI with h | ⟨m', x', h1, h2, h3⟩
    · exact h
    · obtain rfl : m = m' := by omega
      obtain ⟨y, hy, hQ⟩ := ih x' k h2 (by omega)
      exact ⟨y, by rw [h3, hy], hQ⟩
theorem loop_any {Y : Type} {F : Nat → Int → Option Y} (kmin : Nat) (n : Nat) (t : Nat → Bool) (a b : Y) (step : ∀ k i, kmin ≤ k → i < n → F (k + 1) (i : Int) = if t i = true then some a else F k ((i + 1 : Nat) : Int))
    (stop : ∀ k, F (k + 1) (n : Int) = some b) : ∀ d i k, i + d = n → d + kmin < k → F k (i : Int) = some (if (List.range' i d).any t = true then a else b) := by
  intro d
  induction d with
  | zero =>
    intro i k hi hk
    obtain ⟨k, rfl⟩ : ∃ j, k = j + 1 := ⟨k - 1, by omega⟩
    obtain rfl : i = n := by omega
    simpa using stop k
  | succ d ih =>
    intro i k hi hk
    obtain ⟨k, rfl⟩ : ∃ j, k = j + 1 := ⟨k - 1, by omega⟩
    rw [step k i (by omega) (by omega), ih (i + 1) k (by omega) (by omega), List.range'_succ, List.any_cons]
    cases t i <;> simp <;> rfl
theorem not_any {n : Nat} {t : Nat → Bool} (h : (List.range' 0 n).any t = false) {j : Nat} (hj : j < n) : t j = false := by
  rw [List.any_eq_false] at h
  have := h j (List.mem_range'.2 ⟨j, by omega, by omega⟩)
  simpa using this
theorem lt_true {i n : Nat} (h : i < n) : decide ((i : Int) < (n : Int)) = true := by simp; omega
theorem lt_false {i n : Nat} (h : ¬ i < n) : decide ((i : Int) < (n : Int)) = false := by simp; omega
theorem iadd_one {i : Nat} (h : i < 9223372036854775807) : iadd .i64 (i : Int) 1 = ((i + 1 : Nat) : Int) := by rw [iadd_i64 (by omega) (by omega)]; omega

end Go.Sx
