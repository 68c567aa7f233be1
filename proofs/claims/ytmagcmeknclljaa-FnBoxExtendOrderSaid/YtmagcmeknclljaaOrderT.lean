/-
  Numbers in their order: where each stands, the least and the greatest of two, in any order. Plain; ours.
-/
import Derived.Test.YtmagcmeknclljaaSxV
import Derived.Test.YtmagcmeknclljaaSxU
namespace Go.Proofs.Ytmagcmeknclljaa
open Go.Sx
open Ieee (signed)
set_option linter.unusedVariables false
set_option linter.unusedSimpArgs false

def vv (x : Nat) : Int × Int := match FloatKind.f64.format.read x with
  | .infinity true => (-1, 0)
  | .infinity false => (1, 0)
  | .number s m i => (0, signed s m (i + 1074).toNat)
  | .nan _ _ => (2, 0)
def lle (p q : Int × Int) : Prop := p.1 < q.1 ∨ (p.1 = q.1 ∧ p.2 ≤ q.2)
instance (p q : Int × Int) : Decidable (lle p q) := by unfold lle; infer_instance
def lmin (p q : Int × Int) : Int × Int := if lle p q then p else q
def lmax (p q : Int × Int) : Int × Int := if lle p q then q else p

theorem pe {p q : Int × Int} (h1 : p.1 = q.1) (h2 : p.2 = q.2) : p = q := by cases p; cases q; simp_all
theorem lle_refl (p : Int × Int) : lle p p := .inr ⟨rfl, Int.le_refl _⟩
theorem lle_anti {p q : Int × Int} (h : lle p q) (k : lle q p) : p = q := pe (by unfold lle at *; omega) (by unfold lle at *; omega)
theorem lmin_comm3 (p x y : Int × Int) : lmin (lmin p x) y = lmin (lmin p y) x := by
  unfold lmin
  repeat' split
  all_goals first | rfl | (exfalso; simp only [lle] at *; omega) | (apply pe <;> simp only [lle] at * <;> omega)
theorem lmax_comm3 (p x y : Int × Int) : lmax (lmax p x) y = lmax (lmax p y) x := by
  unfold lmax
  repeat' split
  all_goals first | rfl | (exfalso; simp only [lle] at *; omega) | (apply pe <;> simp only [lle] at * <;> omega)
theorem fold_one {f : (Int × Int) → (Int × Int) → Int × Int} (hc : ∀ p x y, f (f p x) y = f (f p y) x) : ∀ (l : List (Int × Int)) (p x : Int × Int), l.foldl f (f p x) = f (l.foldl f p) x
  | [], _, _ => rfl
  | y :: l, p, x => by simp only [List.foldl_cons]; rw [hc p x y, fold_one hc l (f p y) x]
theorem fold_comm {f : (Int × Int) → (Int × Int) → Int × Int} (hc : ∀ p x y, f (f p x) y = f (f p y) x) : ∀ (l m : List (Int × Int)) (p : Int × Int), m.foldl f (l.foldl f p) = l.foldl f (m.foldl f p)
  | [], _, _ => rfl
  | x :: l, m, p => by
    simp only [List.foldl_cons]
    rw [fold_comm hc l m (f p x), fold_one hc m p x]

theorem read_low {x : Nat} {s : Bool} {m : Nat} {i : Int} (h : FloatKind.f64.format.read x = .number s m i) : ∃ q : Nat, i = (q : Int) - 1074 := by
  rw [fmt_is] at h
  unfold Ieee.Format.read at h
  simp only [Go.Sx.sign_is, binade_is, inf_is, least_is] at h
  split at h
  · simp only [Ieee.Datum.number.injEq] at h; exact ⟨0, by omega⟩
  · split at h
    · simp only [Ieee.Datum.number.injEq] at h; exact ⟨(i + 1074).toNat, by omega⟩
    · split at h <;> cases h
theorem vv_D {x : Nat} {s : Bool} {m : Nat} {i : Int} (h : FloatKind.f64.format.read x = .number s m i) : ∃ n, D x n 0 ∧ vv x = (0, n) := by
  obtain ⟨q, rfl⟩ := read_low h
  refine ⟨signed s m q, ⟨s, m, q, h, by simp⟩, ?_⟩
  unfold vv
  rw [h]
  have : ((q : Int) - 1074 + 1074).toNat = q := by omega
  simp only [this]
theorem word_is (x : Nat) (h : isn x = false) : (FloatKind.f64.format.read x = .infinity true ∧ vv x = (-1, 0)) ∨ (FloatKind.f64.format.read x = .infinity false ∧ vv x = (1, 0)) ∨ ∃ n, D x n 0 ∧ vv x = (0, n) := by
  cases hr : FloatKind.f64.format.read x with
  | nan s t => exact absurd (isn_datum.2 ⟨s, t, hr⟩) (by simp [h])
  | infinity s =>
    cases s
    · exact .inr (.inl ⟨rfl, by unfold vv; rw [hr]⟩)
    · exact .inl ⟨rfl, by unfold vv; rw [hr]⟩
  | number s m i => exact .inr (.inr (vv_D hr))
theorem order_is {x y : Nat} (hx : isn x = false) (hy : isn y = false) : FloatKind.f64.format.order x y = some (if vv x = vv y then .eq else if lle (vv x) (vv y) then .lt else .gt) := by
  have hD : ∀ {x : Nat} {n : Int}, D x n 0 → ∃ s m i, FloatKind.f64.format.read x = .number s m i := fun ⟨s, m, q, h, _⟩ => ⟨s, m, _, h⟩
  rcases word_is x hx with ⟨h1, e1⟩ | ⟨h1, e1⟩ | ⟨n, h1, e1⟩ <;> rcases word_is y hy with ⟨h2, e2⟩ | ⟨h2, e2⟩ | ⟨n', h2, e2⟩ <;> rw [e1, e2]
  · unfold Ieee.Format.order; rw [h1, h2]; rfl
  · unfold Ieee.Format.order; rw [h1, h2]; rfl
  · obtain ⟨s, m, i, h3⟩ := hD h2
    unfold Ieee.Format.order; rw [h1, h3]
    rw [if_neg (by simp), if_pos (by left; simp)]; rfl
  · unfold Ieee.Format.order; rw [h1, h2]; rfl
  · unfold Ieee.Format.order; rw [h1, h2]; rfl
  · obtain ⟨s, m, i, h3⟩ := hD h2
    unfold Ieee.Format.order; rw [h1, h3]
    rw [if_neg (by simp), if_neg (by unfold lle; simp)]; rfl
  · obtain ⟨s, m, i, h3⟩ := hD h1
    unfold Ieee.Format.order; rw [h3, h2]
    rw [if_neg (by simp), if_neg (by unfold lle; simp)]; rfl
  · obtain ⟨s, m, i, h3⟩ := hD h1
    unfold Ieee.Format.order; rw [h3, h2]
    rw [if_neg (by simp), if_pos (by left; simp)]; rfl
  · rw [D_order h1 h2]
    rcases Int.lt_trichotomy n n' with h | h | h
    · rw [Int.compare_eq_lt.2 h, if_neg (by simp; omega), if_pos (.inr ⟨rfl, by simp only; omega⟩)]
    · subst h; simp
    · rw [Int.compare_eq_gt.2 h, if_neg (by simp; omega), if_neg (by unfold lle; simp; omega)]
theorem feq_vv {x y : Nat} (hx : isn x = false) (hy : isn y = false) : feq x y = decide (vv x = vv y) := by
  unfold feq; rw [order_is hx hy]
  by_cases h : vv x = vv y
  · simp [h]
  · rw [if_neg h]
    split <;> simp [h]

theorem vv_inf (s : Bool) : isn (FloatKind.f64.encode (.infinity s)) = false ∧ vv (FloatKind.f64.encode (.infinity s)) = (if s then -1 else 1, 0) := by
  cases s <;> exact ⟨by decide, by decide⟩
theorem infin_iff {x : Nat} (hx : isn x = false) (s : Bool) : (FloatKind.f64.decode x == .infinity s) = decide (vv x = (if s then -1 else 1, 0)) := by
  show (FloatKind.f64.format.read x == .infinity s) = _
  have hD : ∀ {x : Nat} {n : Int}, D x n 0 → ∃ s m i, FloatKind.f64.format.read x = .number s m i := fun ⟨s, m, q, h, _⟩ => ⟨s, m, _, h⟩
  rcases word_is x hx with ⟨h1, e1⟩ | ⟨h1, e1⟩ | ⟨n, h1, e1⟩
  · rw [h1, e1]; cases s <;> decide
  · rw [h1, e1]; cases s <;> decide
  · obtain ⟨s', m, i, h3⟩ := hD h1
    rw [h3, e1]
    cases s <;> simp <;> rfl
theorem zero_iff {x : Nat} (hx : isn x = false) (h : (FloatKind.f64.decode x).isZero = true) : vv x = (0, 0) := by
  have h' : (FloatKind.f64.format.read x).isZero = true := h
  cases hr : FloatKind.f64.format.read x with
  | nan s t => rw [hr] at h'; cases h'
  | infinity s => rw [hr] at h'; cases h'
  | number s m i =>
    rw [hr] at h'
    have hm : m = 0 := by
      cases m with
      | zero => rfl
      | succ m => cases h'
    subst hm
    unfold vv; rw [hr]
    simp [Go.Sx.signed_eq]
theorem mpick_min {x y : Nat} (hx : isn x = false) (hy : isn y = false) : isn (mpick true .lt x y) = false ∧ vv (mpick true .lt x y) = lmin (vv x) (vv y) := by
  have b1 : ∀ {z}, isn z = false → lle (-1, 0) (vv z) := fun {z} hz => by
    rcases word_is z hz with ⟨_, e⟩ | ⟨_, e⟩ | ⟨n, _, e⟩ <;> rw [e] <;> unfold lle <;> simp
  unfold mpick
  simp only [infin_iff hx, infin_iff hy, if_true]
  by_cases h1 : vv x = (-1, 0)
  · rw [decide_eq_true h1, Bool.true_or, if_pos rfl]
    refine ⟨(vv_inf true).1, (vv_inf true).2.trans ?_⟩
    unfold lmin; rw [h1, if_pos (b1 hy)]; rfl
  by_cases h2 : vv y = (-1, 0)
  · rw [decide_eq_true h2, Bool.or_true, if_pos rfl]
    refine ⟨(vv_inf true).1, (vv_inf true).2.trans ?_⟩
    unfold lmin; rw [h2]
    by_cases h3 : lle (vv x) (-1, 0)
    · exact absurd (lle_anti h3 (b1 hx)) h1
    · rw [if_neg h3]; rfl
  rw [decide_eq_false h1, decide_eq_false h2, Bool.or_false, if_neg (by simp)]
  have nx : (FloatKind.f64.decode x).isNaN = false := hx
  have ny : (FloatKind.f64.decode y).isNaN = false := hy
  rw [nx, ny, Bool.or_false, if_neg (by simp)]
  cases hz : ((FloatKind.f64.decode x).isZero && (FloatKind.f64.decode y).isZero) with
  | true =>
    rw [if_pos rfl]
    simp only [Bool.and_eq_true] at hz
    have z1 := zero_iff hx hz.1
    have z2 := zero_iff hy hz.2
    split
    · exact ⟨hx, by rw [z1, z2]; rfl⟩
    · exact ⟨hy, by rw [z1, z2]; rfl⟩
  | false =>
    rw [if_neg (by simp)]
    have ho : (FloatKind.f64.decode x).order (FloatKind.f64.decode y) = FloatKind.f64.format.order x y := rfl
    rw [ho, order_is hx hy]
    unfold lmin
    by_cases h3 : vv x = vv y
    · rw [if_pos h3, if_neg (by decide), if_pos (h3 ▸ lle_refl _)]; exact ⟨hy, h3.symm⟩
    · rw [if_neg h3]
      by_cases h4 : lle (vv x) (vv y)
      · rw [if_pos h4, if_pos (by rfl), if_pos h4]; exact ⟨hx, rfl⟩
      · rw [if_neg h4, if_neg (by decide), if_neg h4]; exact ⟨hy, rfl⟩
theorem mpick_max {x y : Nat} (hx : isn x = false) (hy : isn y = false) : isn (mpick false .gt x y) = false ∧ vv (mpick false .gt x y) = lmax (vv x) (vv y) := by
  have b1 : ∀ {z}, isn z = false → lle (vv z) (1, 0) := fun {z} hz => by
    rcases word_is z hz with ⟨_, e⟩ | ⟨_, e⟩ | ⟨n, _, e⟩ <;> rw [e] <;> unfold lle <;> simp
  unfold mpick
  simp only [infin_iff hx, infin_iff hy, Bool.false_eq_true, if_false]
  by_cases h1 : vv x = (1, 0)
  · rw [decide_eq_true h1, Bool.true_or, if_pos rfl]
    refine ⟨(vv_inf false).1, (vv_inf false).2.trans ?_⟩
    unfold lmax; rw [h1]
    by_cases h3 : lle (1, 0) (vv y)
    · rw [if_pos h3]; exact (lle_anti (b1 hy) h3).symm
    · rw [if_neg h3]; rfl
  by_cases h2 : vv y = (1, 0)
  · rw [decide_eq_true h2, Bool.or_true, if_pos rfl]
    refine ⟨(vv_inf false).1, (vv_inf false).2.trans ?_⟩
    unfold lmax; rw [h2, if_pos (b1 hx)]; rfl
  rw [decide_eq_false h1, decide_eq_false h2, Bool.or_false, if_neg (by simp)]
  have nx : (FloatKind.f64.decode x).isNaN = false := hx
  have ny : (FloatKind.f64.decode y).isNaN = false := hy
  rw [nx, ny, Bool.or_false, if_neg (by simp)]
  cases hz : ((FloatKind.f64.decode x).isZero && (FloatKind.f64.decode y).isZero) with
  | true =>
    rw [if_pos rfl]
    simp only [Bool.and_eq_true] at hz
    have z1 := zero_iff hx hz.1
    have z2 := zero_iff hy hz.2
    split
    · exact ⟨hx, by rw [z1, z2]; rfl⟩
    · exact ⟨hy, by rw [z1, z2]; rfl⟩
  | false =>
    rw [if_neg (by simp)]
    have ho : (FloatKind.f64.decode x).order (FloatKind.f64.decode y) = FloatKind.f64.format.order x y := rfl
    rw [ho, order_is hx hy]
    unfold lmax
    by_cases h3 : vv x = vv y
    · rw [if_pos h3, if_neg (by decide), if_pos (h3 ▸ lle_refl _)]; exact ⟨hy, rfl⟩
    · rw [if_neg h3]
      by_cases h4 : lle (vv x) (vv y)
      · rw [if_pos h4, if_neg (by decide), if_pos h4]; exact ⟨hy, rfl⟩
      · rw [if_neg h4, if_pos (by rfl), if_neg h4]; exact ⟨hx, rfl⟩
end Go.Proofs.Ytmagcmeknclljaa
