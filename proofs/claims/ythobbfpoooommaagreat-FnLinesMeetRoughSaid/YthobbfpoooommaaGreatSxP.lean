/-
  Plain lemmas: numbers, lists, floats as words. Ours; it knows no program.
-/
import Derived.Test.YthobbfpoooommaaGreatSxH
namespace Go.Sx
set_option linter.unusedVariables false
set_option linter.unusedSimpArgs false

/-! ### integers -/
theorem wrap_i64 {n : Int} (h1 : -9223372036854775808 ≤ n) (h2 : n < 9223372036854775808) : IntKind.wrap .i64 n = n := by
  simp only [IntKind.wrap, IntKind.signed, IntKind.bits]
  by_cases h : 0 ≤ n
  · have : n % (2 ^ 64 : Int) = n := Int.emod_eq_of_lt h (by omega)
    simp only [this]
    rw [if_neg (by simp; omega)]
  · have : n % (2 ^ 64 : Int) = n + 2 ^ 64 := by
      rw [← Int.add_emod_right]
      exact Int.emod_eq_of_lt (by omega) (by omega)
    simp only [this]
    rw [if_pos (by simp; omega)]
    omega
theorem iadd_i64 {a b : Int} (h1 : -9223372036854775808 ≤ a + b) (h2 : a + b < 9223372036854775808) : iadd .i64 a b = a + b := wrap_i64 h1 h2
theorem isub_i64 {a b : Int} (h1 : -9223372036854775808 ≤ a - b) (h2 : a - b < 9223372036854775808) : isub .i64 a b = a - b := wrap_i64 h1 h2
theorem idx_get {α : Type} {xs : List α} {i : Nat} (h : i < xs.length) : idx xs (i : Int) = some xs[i] := by
  simp [idx, h]
@[simp] theorem br_true {α : Type} (x y : α) : br true x y = x := rfl
@[simp] theorem br_false {α : Type} (x y : α) : br false x y = y := rfl
def fnan (x : Nat) : Bool := (FloatKind.f64.decode x).isNaN
theorem cmp_swap (a b : Int) : compare b a = (compare a b).swap := Int.instTransOrd.toOrientedCmp.eq_swap (a := b) (b := a)

theorem order_swap (x y : Nat) : FloatKind.f64.format.order y x = (FloatKind.f64.format.order x y).map Ordering.swap := by
  unfold Ieee.Format.order
  generalize FloatKind.f64.format.read x = a
  generalize FloatKind.f64.format.read y = b
  cases a with
  | nan s t => cases b <;> simp [Ieee.Datum.order]
  | infinity s =>
    cases b with
    | nan s t => simp [Ieee.Datum.order]
    | infinity t => cases s <;> cases t <;> rfl
    | number t n j => cases s <;> rfl
  | number s m i =>
    cases b with
    | nan s t => simp [Ieee.Datum.order]
    | infinity t => cases t <;> rfl
    | number t n j =>
      simp only [Ieee.Datum.order, Option.map_some]
      rw [show min j i = min i j from Int.min_comm j i, cmp_swap]

theorem fgt_flt (x y : Nat) : fgt x y = flt y x := by
  unfold fgt flt
  rw [order_swap y x]
  cases FloatKind.f64.format.order y x with
  | none => rfl
  | some o => cases o <;> rfl
theorem fne_feq (x y : Nat) : fne x y = !feq x y := rfl
theorem sbind {α β : Type} (a : α) (f : α → Option β) : (some a >>= f) = f a := rfl

/-! #### loops, by the rounds that are left -/
end Go.Sx
