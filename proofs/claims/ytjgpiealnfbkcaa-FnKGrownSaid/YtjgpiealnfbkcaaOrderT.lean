/-
  Numbers in their order: where each stands, the least and the greatest of two, in any order. Plain; ours.
-/
import Derived.Test.YtjgpiealnfbkcaaSxV
import Derived.Test.YtjgpiealnfbkcaaSxU
namespace Go.Proofs.Ytjgpiealnfbkcaa
open Go.Sx
open Ieee (signed)
set_option linter.unusedVariables false
set_option linter.unusedSimpArgs false

def vv (x : Nat) : Int × Int := match FloatKind.f64.format.read x with
  | .infinity true => (-1, 0)
  | .infinity false => (1, 0)
  | .number s m i => (0, signed s m (i + 1074).toNat)
  | .nan _ _ => (2, 0)
def lle (p q : Int × Int) : Prop := p.1 < q.1 ∨ (p.1 = q.1 ∧ p.2 ≤ q.2)
instance (p q : Int × Int) : Decidable (lle p q) := by unfold lle; infer_instance
def lmin (p q : Int × Int) : Int × Int := if lle p q then p else q
def lmax (p q : Int × Int) : Int × Int := if lle p q then q else p

theorem read_low {x : Nat} {s : Bool} {m : Nat} {i : Int} (h : FloatKind.f64.format.read x = .number s m i) : ∃ q : Nat, i = (q : Int) - 1074 := by
  rw [fmt_is] at h
  unfold Ieee.Format.read at h
  simp only [Go.Sx.sign_is, binade_is, inf_is, least_is] at h
  split at h
  · simp only [Ieee.Datum.number.injEq] at h; exact ⟨0, by omega⟩
  · split at h
    · simp only [Ieee.Datum.number.injEq] at h; exact ⟨(i + 1074).toNat, by omega⟩
    · split at h <;> cases h
theorem vv_D {x : Nat} {s : Bool} {m : Nat} {i : Int} (h : FloatKind.f64.format.read x = .number s m i) : ∃ n, D x n 0 ∧ vv x = (0, n) := by
  obtain ⟨q, rfl⟩ := read_low h
  refine ⟨signed s m q, ⟨s, m, q, h, by simp⟩, ?_⟩
  unfold vv
  rw [h]
  have : ((q : Int) - 1074 + 1074).toNat = q := by omega
  simp only [this]
theorem word_is (x : Nat) (h : isn x = false) : (FloatKind.f64.format.read x = .infinity true ∧ vv x = (-1, 0)) ∨ (FloatKind.f64.format.read x = .infinity false ∧ vv x = (1, 0)) ∨ ∃ n, D x n 0 ∧ vv x = (0, n) := by
  cases hr : FloatKind.f64.format.read x with
  | nan s t => exact absurd (isn_datum.2 ⟨s, t, hr⟩) (by simp [h])
  | infinity s =>
    cases s
    · exact .inr (.inl ⟨rfl, by unfold vv; rw [hr]⟩)
    · exact .inl ⟨rfl, by unfold vv; rw [hr]⟩
  | number s m i => exact .inr (.inr (vv_D hr))
theorem infin_iff {x : Nat} (hx : isn x = false) (s : Bool) : (FloatKind.f64.decode x == .infinity s) = decide (vv x = (if s then -1 else 1, 0)) := by
  show (FloatKind.f64.format.read x == .infinity s) = _
  have hD : ∀ {x : Nat} {n : Int}, D x n 0 → ∃ s m i, FloatKind.f64.format.read x = .number s m i := fun ⟨s, m, q, h, _⟩ => ⟨s, m, _, h⟩
  rcases word_is x hx with ⟨h1, e1⟩ | ⟨h1, e1⟩ | ⟨n, h1, e1⟩
  · rw [h1, e1]; cases s <;> decide
  · rw [h1, e1]; cases s <;> decide
  · obtain ⟨s', m, i, h3⟩ := hD h1
    rw [h3, e1]
    cases s <;> simp <;> rfl
theorem zero_iff {x : Nat} (hx : isn x = false) (h : (FloatKind.f64.decode x).isZero = true) : vv x = (0, 0) := by
  have h' : (FloatKind.f64.format.read x).isZero = true := h
  cases hr : FloatKind.f64.format.read x with
  | nan s t => rw [hr] at h'; cases h'
  | infinity s => rw [hr] at h'; cases h'
  | number s m i =>
    rw [hr] at h'
    have hm : m = 0 := by
      cases m with
      | zero => rfl
      | succ m => cases h'
    subst hm
    unfold vv; rw [hr]
    simp [Go.Sx.signed_eq]
end Go.Proofs.Ytjgpiealnfbkcaa
