/-
  The sums over rings of whole places: what words stand for them. Ours.
-/
import Derived.Test.YtajpajggckappaaGreatRmEnd
import Derived.Test.YtajpajggckappaaGreatSxW
namespace Go.Proofs.YtajpajggckappaaGreat
open Go.Sx
open Ieee (signed)
set_option linter.unusedVariables false
set_option linter.unusedSimpArgs false
set_option maxRecDepth 100000

noncomputable def rr (S : Nat) : Rat := if h : S ≤ 39000 then Classical.choose (root_ex S h) else 0
theorem rr_is {S : Nat} (h : S ≤ 39000) : (rr S = 0 ∨ 1 / 2 ≤ rr S) ∧ rr S ≤ 200 ∧ ∀ w, D w (S : Int) 1074 → Q (gsqrt w) (rr S) := by
  unfold rr
  rw [dif_pos h]
  exact Classical.choose_spec (root_ex S h)
abbrev Pz := Int × Int
abbrev S3 := Rat × Rat × Rat
def sq (p q : Pz) : Nat := ((q.1 - p.1) * (q.1 - p.1) + (q.2 - p.2) * (q.2 - p.2)).toNat
noncomputable def stp (p q : Pz) (s : S3) : S3 :=
  (s.1 + rr (sq p q) * ((p.1 + q.1 : Int) : Rat) / 2, s.2.1 + rr (sq p q) * ((p.2 + q.2 : Int) : Rat) / 2, s.2.2 + rr (sq p q))
noncomputable def foldN (P : Nat → Pz) (j : Nat) : Nat → S3 → S3
  | 0, s => s
  | n + 1, s => foldN P (j + 1) n (stp (P j) (P (j + 1)) s)
def Bd (p : Pz) : Prop := p.1.natAbs ≤ 64 ∧ p.2.natAbs ≤ 64
theorem sq_sum {a b : Int} (h1 : a.natAbs ≤ 128) (h2 : b.natAbs ≤ 128) : 0 ≤ a * a + b * b ∧ a * a + b * b ≤ 32768 := by
  have e1 : a * a = ((a.natAbs * a.natAbs : Nat) : Int) := by rw [← Int.natAbs_mul_self]
  have e2 : b * b = ((b.natAbs * b.natAbs : Nat) : Int) := by rw [← Int.natAbs_mul_self]
  have h3 := Nat.mul_le_mul h1 h1
  have h4 := Nat.mul_le_mul h2 h2
  rw [e1, e2]
  omega
theorem sq_is {p q : Pz} (hp : Bd p) (hq : Bd q) : ((sq p q : Nat) : Int) = (q.1 - p.1) * (q.1 - p.1) + (q.2 - p.2) * (q.2 - p.2) ∧ sq p q ≤ 39000 := by
  obtain ⟨a1, a2⟩ := hp
  obtain ⟨b1, b2⟩ := hq
  have h := sq_sum (a := q.1 - p.1) (b := q.2 - p.2) (by omega) (by omega)
  unfold sq
  omega

/-- the words c d t stand for the sums s, after j steps -/
def Inv (c d t : Nat) (s : S3) (j : Nat) : Prop :=
  ∃ a b l, Q c a ∧ Q d b ∧ Q t l ∧ Nr a s.1 ((j : Rat) * kk * s.2.2) ∧ Nr b s.2.1 ((j : Rat) * kk * s.2.2) ∧ Nr l s.2.2 ((j : Rat) * kk * s.2.2) ∧ Sm s.1 (64 * s.2.2) ∧ Sm s.2.1 (64 * s.2.2) ∧ (s.2.2 = 0 ∨ 1 / 2 ≤ s.2.2) ∧ s.2.2 ≤ 200 * (j : Rat)

theorem inv_zero : Inv 0 0 0 (0, 0, 0) 0 := by
  refine ⟨0, 0, 0, q_zero, q_zero, q_zero, ?_, ?_, ?_, ?_, ?_, .inl rfl, ?_⟩ <;> simp [Nr, Sm] <;> grind
theorem sum_sm {a b : Int} (h1 : a.natAbs ≤ 64) (h2 : b.natAbs ≤ 64) : Sm ((a + b : Int) : Rat) 128 := by
  have h3 := (Rat.intCast_le_intCast (a := -128) (b := a + b)).2 (by omega)
  have h4 := (Rat.intCast_le_intCast (a := a + b) (b := 128)).2 (by omega)
  have e1 : ((-128 : Int) : Rat) = -128 := rfl
  have e2 : ((128 : Int) : Rat) = 128 := rfl
  rw [e1] at h3
  rw [e2] at h4
  exact ⟨h3, h4⟩
theorem inv_step {c d t n u v : Nat} {s : S3} {j : Nat} {p q : Pz} {f g : Rat} (h : Inv c d t s j) (hj : j ≤ 4000) (hp : Bd p) (hq : Bd q) (hn : Q n (rr (sq p q)))
    (hu : Q u (rr (sq p q) * ((p.1 + q.1 : Int) : Rat) / 2 * (1 + f))) (hf : Sm f (5 * uu)) (hv : Q v (rr (sq p q) * ((p.2 + q.2 : Int) : Rat) / 2 * (1 + g))) (hg : Sm g (5 * uu)) :
    Inv (gadd c u) (gadd d v) (gadd t n) (stp p q s) (j + 1) := by
  obtain ⟨a, b, l, h1, h2, h3, h4, h5, h6, h7, h8, h9, h10⟩ := h
  obtain ⟨r1, r2, _⟩ := rr_is (sq_is hp hq).2
  have m1 := sum_sm hp.1 hq.1
  have m2 := sum_sm hp.2 hq.2
  have hj1 := cast_le hj
  have hj0 := cast_le (Nat.zero_le j)
  have e1 : ((4000 : Nat) : Rat) = 4000 := rfl
  have e0 : ((0 : Nat) : Rat) = 0 := rfl
  have e2 : ((j + 1 : Nat) : Rat) = (j : Rat) + 1 := by push_cast; rfl
  rw [e1] at hj1
  rw [e0] at hj0
  have hn' : Q n (rr (sq p q) * 2 / 2 * (1 + 0)) := by
    have : rr (sq p q) * 2 / 2 * (1 + 0) = rr (sq p q) := by grind
    rw [this]; exact hn
  unfold Inv stp
  simp only [e2]
  generalize rr (sq p q) = r at *
  generalize ((p.1 + q.1 : Int) : Rat) = x at *
  generalize ((p.2 + q.2 : Int) : Rat) = y at *
  generalize (j : Rat) = J at *
  obtain ⟨X, Y, L⟩ := s
  simp only at *
  have r0 : 0 ≤ r := by grind
  have L0 : 0 ≤ L := by grind
  have hJk : 0 ≤ J * kk := Rat.mul_nonneg hj0 (by grind)
  obtain ⟨a', g1, g2, g3⟩ := acc_step h1 hu hf h4 h7 m1 r0 r2 hJk (by grind) L0 (by grind)
  obtain ⟨b', g4, g5, g6⟩ := acc_step h2 hv hg h5 h8 m2 r0 r2 hJk (by grind) L0 (by grind)
  obtain ⟨l', g7, g8, g9⟩ := acc_step h3 hn' (sm_zero (by grind)) h6 ⟨by grind, by grind⟩ ⟨by grind, by grind⟩ r0 r2 hJk (by grind) L0 (by grind)
  have e3 : J * kk + kk = (J + 1) * kk := by grind
  have e4 : L + r * 2 / 2 = L + r := by grind
  rw [e3] at g2 g5 g8
  rw [e4] at g8
  exact ⟨a', b', l', g1, g4, g7, g2, g5, g8, g3, g6, by grind, by grind⟩
theorem inv_a {c d t n x y : Nat} {s : S3} {j : Nat} {p q : Pz} (h : Inv c d t s j) (hj : j ≤ 4000) (hp : Bd p) (hq : Bd q) (hn : Q n (rr (sq p q))) (hx : D x (p.1 + q.1) 1074) (hy : D y (p.2 + q.2) 1074) :
    ∃ z w, fmul n x = some (gmul n x) ∧ fdiv (gmul n x) 4611686018427387904 = some z ∧ fadd c z = some (gadd c z) ∧ fmul n y = some (gmul n y) ∧ fdiv (gmul n y) 4611686018427387904 = some w ∧ fadd d w = some (gadd d w) ∧ Inv (gadd c z) (gadd d w) (gadd t n) (stp p q s) (j + 1) := by
  obtain ⟨r1, r2, _⟩ := rr_is (sq_is hp hq).2
  have m1 := sum_sm hp.1 hq.1
  have m2 := sum_sm hp.2 hq.2
  obtain ⟨f, f1, f2⟩ := term_a hn (Q_whole hx) r1 r2 m1
  obtain ⟨g, g1, g2⟩ := term_a hn (Q_whole hy) r1 r2 m2
  have hI := inv_step h hj hp hq hn f1 f2 g1 g2
  obtain ⟨a, b, l, i1, i2, i3, _⟩ := hI
  have hmx : fmul n x = some (gmul n x) := by
    obtain ⟨e, e1, _⟩ := gmul_rel hn (Q_whole hx) (md2_md (rg_md_half (by have := rm_far r1 r2 m1; grind) (by have := (rm_far r1 r2 m1).2; exact sm_mono this (by grind))))
    exact fmul_q e1
  have hmy : fmul n y = some (gmul n y) := by
    obtain ⟨e, e1, _⟩ := gmul_rel hn (Q_whole hy) (md2_md (rg_md_half (by have := rm_far r1 r2 m2; grind) (by have := (rm_far r1 r2 m2).2; exact sm_mono this (by grind))))
    exact fmul_q e1
  exact ⟨_, _, hmx, Go.Sx.fdiv_q f1, fadd_q i1, hmy, Go.Sx.fdiv_q g1, fadd_q i2, inv_step h hj hp hq hn f1 f2 g1 g2⟩
theorem inv_b {c d t n x y : Nat} {s : S3} {j : Nat} {p q : Pz} (h : Inv c d t s j) (hj : j ≤ 4000) (hp : Bd p) (hq : Bd q) (hn : Q n (rr (sq p q))) (hx : D x (p.1 + q.1) 1074) (hy : D y (p.2 + q.2) 1074) :
    ∃ z w, fdiv x 4611686018427387904 = some z ∧ fdiv y 4611686018427387904 = some w ∧ num (gadd c (gmul n z)) = some (gadd c (gmul n z)) ∧ num (gadd d (gmul n w)) = some (gadd d (gmul n w)) ∧ Inv (gadd c (gmul n z)) (gadd d (gmul n w)) (gadd t n) (stp p q s) (j + 1) := by
  obtain ⟨r1, r2, _⟩ := rr_is (sq_is hp hq).2
  have m1 := sum_sm hp.1 hq.1
  have m2 := sum_sm hp.2 hq.2
  obtain ⟨f, f1, f2⟩ := term_b hn (Q_whole hx) r1 r2 m1
  obtain ⟨g, g1, g2⟩ := term_b hn (Q_whole hy) r1 r2 m2
  have hI := inv_step h hj hp hq hn f1 f2 g1 g2
  obtain ⟨a, b, l, i1, i2, i3, _⟩ := hI
  have hb1 := hp.1
  have hb2 := hq.1
  have hb3 := hp.2
  have hb4 := hq.2
  have q2 : (0 : Rat) < 2 := by decide
  exact ⟨_, _, fdiv_q (Q_whole hx) Q_two q2, fdiv_q (Q_whole hy) Q_two q2, num_q i1, num_q i2, inv_step h hj hp hq hn f1 f2 g1 g2⟩
end Go.Proofs.YtajpajggckappaaGreat
