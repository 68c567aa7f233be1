/-
  Sums of weighted middles, and their quotient: how far rounding can take them. Ours; it knows no program.
-/
import Derived.Test.YtajpajggckappaaGreatDivAbs
namespace Go.Sx
open Ieee (signed)
set_option linter.unusedVariables false
set_option linter.unusedSimpArgs false
set_option maxRecDepth 100000

/-- within d of it -/
def Nr (c X d : Rat) : Prop := Sm (c - X) d

theorem sm_add {a b p q : Rat} (h : Sm a p) (h' : Sm b q) : Sm (a + b) (p + q) := by
  obtain ⟨h1, h2⟩ := h
  obtain ⟨h3, h4⟩ := h'
  exact ⟨by grind, by grind⟩
abbrev kk : Rat := 512 * uu
theorem half_sm {r m : Rat} (hm : Sm m 128) (hr0 : 0 ≤ r) : Sm (r * m / 2) (64 * r) := by
  have := sm_mul (e := r) (f := m) (p := r) (q := 128) ⟨by grind, by grind⟩ hm
  obtain ⟨h1, h2⟩ := this
  exact ⟨by grind, by grind⟩
/-- one step of a sum -/
theorem acc_step {x t : Nat} {c X L J r m f : Rat} (hx : Q x c) (ht : Q t (r * m / 2 * (1 + f))) (hf : Sm f (5 * uu)) (hc : Nr c X (J * L)) (hX : Sm X (64 * L)) (hm : Sm m 128)
    (hr0 : 0 ≤ r) (hr1 : r ≤ 200) (hJ0 : 0 ≤ J) (hJ1 : J ≤ 1) (hL0 : 0 ≤ L) (hL1 : L ≤ 1000000) :
    ∃ c', Q (gadd x t) c' ∧ Nr c' (X + r * m / 2) ((J + kk) * (L + r)) ∧ Sm (X + r * m / 2) (64 * (L + r)) := by
  have hT := half_sm hm hr0
  have hA := sm_mul hT hf
  have hJL : 0 ≤ (1 - J) * L := Rat.mul_nonneg (by grind) hL0
  have hJL0 : 0 ≤ J * L := Rat.mul_nonneg hJ0 hL0
  have hJr : 0 ≤ J * r := Rat.mul_nonneg hJ0 hr0
  have hS : Sm (c + r * m / 2 * (1 + f)) (65 * (L + r)) := by
    unfold Nr at hc
    obtain ⟨a1, a2⟩ := hT
    obtain ⟨b1, b2⟩ := hA
    obtain ⟨c1, c2⟩ := hc
    obtain ⟨d1, d2⟩ := hX
    generalize hq : r * m / 2 = q at *
    have e : q * (1 + f) = q + q * f := by grind
    rw [e]
    generalize q * f = w at *
    constructor <;> grind
  obtain ⟨e, g1, g2⟩ := gadd_full hx ht (by obtain ⟨s1, s2⟩ := hS; constructor <;> grind)
  have hB := sm_mul hS g2
  refine ⟨_, g1, ?_, sm_mono (sm_add hX hT) (by grind)⟩
  unfold Nr at hc ⊢
  obtain ⟨a1, a2⟩ := hT
  obtain ⟨b1, b2⟩ := hA
  obtain ⟨c1, c2⟩ := hc
  obtain ⟨d1, d2⟩ := hB
  generalize hq : r * m / 2 = q at *
  have e1 : q * (1 + f) = q + q * f := by grind
  have e2 : (c + q * (1 + f)) * (1 + e) = c + q + q * f + (c + q * (1 + f)) * e := by grind
  rw [e2]
  generalize (c + q * (1 + f)) * e = w at *
  generalize q * f = v at *
  have e3 : (J + kk) * (L + r) = J * L + J * r + kk * L + kk * r := by grind
  rw [e3]
  constructor <;> grind

theorem sm_one5 {e f : Rat} (h : Sm e (3 * uu)) (h' : Sm f uu) : ∃ g, (1 + e) * (1 + f) = 1 + g ∧ Sm g (5 * uu) := sm_one h h' (by grind)
theorem rg_md_half {V : Rat} (h : V = 0 ∨ 1 / 8 ≤ V ∨ 1 / 8 ≤ -V) (h1 : Sm V 100000) : Md2 V := by
  obtain ⟨a, b⟩ := h1
  refine ⟨?_, by grind, by grind⟩
  rcases h with h | h | h
  · exact .inl h
  · exact .inr (.inl (by grind))
  · exact .inr (.inr (by grind))
theorem md2_md {V : Rat} (h : Md2 V) : Md V := by
  obtain ⟨h1, h2, h3⟩ := h
  refine ⟨?_, by grind, by grind⟩
  rcases h1 with h | h | h
  · exact .inl h
  · exact .inr (.inl (by grind))
  · exact .inr (.inr (by grind))
theorem int_far (m : Int) : (m : Rat) = 0 ∨ 1 ≤ (m : Rat) ∨ 1 ≤ -(m : Rat) := by
  rcases Int.lt_trichotomy m 0 with h | h | h
  · right; right
    have := (Rat.intCast_le_intCast (a := m) (b := -1)).2 (by omega)
    simp at this; grind
  · left; subst h; simp
  · right; left
    have := (Rat.intCast_le_intCast (a := 1) (b := m)).2 (by omega)
    simpa using this
theorem Q_two : Q 4611686018427387904 2 := by
  have h := Q_whole (D_two 1 (by omega))
  simpa using h
theorem rm_far {r : Rat} {m : Int} (hr : r = 0 ∨ 1 / 2 ≤ r) (hr1 : r ≤ 200) (hm : Sm (m : Rat) 128) : (r * m = 0 ∨ 1 / 2 ≤ r * m ∨ 1 / 2 ≤ -(r * m)) ∧ Sm (r * m) 25600 := by
  have hr0 : 0 ≤ r := by grind
  refine ⟨?_, ?_⟩
  · rcases hr with h | h
    · left; subst h; simp
    · rcases int_far m with h1 | h1 | h1
      · left; rw [h1]; simp
      · right; left
        have := Rat.mul_nonneg hr0 (show 0 ≤ (m : Rat) - 1 by grind)
        grind
      · right; right
        have := Rat.mul_nonneg hr0 (show 0 ≤ -(m : Rat) - 1 by grind)
        grind
  · have := sm_mul (e := r) (f := (m : Rat)) (p := 200) (q := 128) ⟨by grind, by grind⟩ hm
    exact sm_mono this (by grind)
/-- the law's term: product first, then its half -/
theorem term_a {n s : Nat} {r : Rat} {m : Int} (hn : Q n r) (hs : Q s (m : Rat)) (hr : r = 0 ∨ 1 / 2 ≤ r) (hr1 : r ≤ 200) (hm : Sm (m : Rat) 128) :
    ∃ f, Q (gdiv (gmul n s) 4611686018427387904) (r * m / 2 * (1 + f)) ∧ Sm f (5 * uu) := by
  obtain ⟨h1, h2⟩ := rm_far hr hr1 hm
  obtain ⟨e1, a1, a2⟩ := gmul_rel hn hs (md2_md (rg_md_half (by grind) (sm_mono h2 (by grind))))
  obtain ⟨e2, b1, b2⟩ := gdiv_rel a1 Q_two (by decide) (by
    refine rg_md_half ?_ ?_
    · obtain ⟨c1, c2⟩ := a2
      rcases h1 with h | h | h
      · left; rw [h]; grind
      · right; left
        have := Rat.mul_nonneg (show 0 ≤ r * m - 1 / 2 by grind) (show 0 ≤ 1 + e1 by grind)
        grind
      · right; right
        have := Rat.mul_nonneg (show 0 ≤ -(r * m) - 1 / 2 by grind) (show 0 ≤ 1 + e1 by grind)
        grind
    · have := sm_mul h2 a2
      obtain ⟨c1, c2⟩ := this
      obtain ⟨d1, d2⟩ := h2
      constructor <;> grind)
  obtain ⟨g, k1, k2⟩ := sm_one5 b2 a2
  refine ⟨g, ?_, k2⟩
  have : r * m / 2 * (1 + g) = r * m * (1 + e1) / 2 * (1 + e2) := by rw [← k1]; grind
  rw [this]; exact b1
/-- the program's term: half first, then the product -/
theorem term_b {n s : Nat} {r : Rat} {m : Int} (hn : Q n r) (hs : Q s (m : Rat)) (hr : r = 0 ∨ 1 / 2 ≤ r) (hr1 : r ≤ 200) (hm : Sm (m : Rat) 128) :
    ∃ f, Q (gmul n (gdiv s 4611686018427387904)) (r * m / 2 * (1 + f)) ∧ Sm f (5 * uu) := by
  obtain ⟨h1, h2⟩ := rm_far hr hr1 hm
  obtain ⟨e1, a1, a2⟩ := gdiv_rel hs Q_two (by decide) (rg_md_half (by have := int_far m; grind) (by obtain ⟨c1, c2⟩ := hm; constructor <;> grind))
  obtain ⟨e2, b1, b2⟩ := gmul_rel hn a1 (by
    refine md2_md (rg_md_half ?_ ?_)
    · obtain ⟨c1, c2⟩ := a2
      have e : r * (m / 2 * (1 + e1)) = r * m / 2 * (1 + e1) := by grind
      rw [e]
      rcases h1 with h | h | h
      · left; rw [h]; grind
      · right; left
        have := Rat.mul_nonneg (show 0 ≤ r * m - 1 / 2 by grind) (show 0 ≤ 1 + e1 by grind)
        grind
      · right; right
        have := Rat.mul_nonneg (show 0 ≤ -(r * m) - 1 / 2 by grind) (show 0 ≤ 1 + e1 by grind)
        grind
    · have e : r * (m / 2 * (1 + e1)) = (r * m + r * m * e1) / 2 := by grind
      rw [e]
      have := sm_mul h2 a2
      obtain ⟨c1, c2⟩ := this
      obtain ⟨d1, d2⟩ := h2
      constructor <;> grind)
  obtain ⟨g, k1, k2⟩ := sm_one5 a2 b2
  refine ⟨g, ?_, k2⟩
  have : r * m / 2 * (1 + g) = r * (m / 2 * (1 + e1)) * (1 + e2) := by rw [← k1]; grind
  rw [this]; exact b1
end Go.Sx
