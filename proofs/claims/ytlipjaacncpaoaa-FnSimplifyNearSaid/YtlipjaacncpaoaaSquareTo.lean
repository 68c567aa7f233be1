/-
  The square of the way from a point to a segment, as the law's own exact numbers have it. Ours.
-/
import Derived.Test.YtlipjaacncpaoaaExact3
namespace Go.Proofs.Ytlipjaacncpaoaa
open Go.Sx
open Ieee (signed)
set_option linter.unusedVariables false
set_option linter.unusedSimpArgs false
set_option maxRecDepth 100000

theorem dot_is {k : Nat} (hk : 1000 < k) {a0 b0 c0 d0 a3 b3 c3 d3 : Bool} {a1 a4 b1 b4 c1 c4 d1 d4 : List Int} {a2 a5 b2 b5 c2 c5 d2 d5 : Int} {A0 A1 B0 B1 C0 C1 D0 D1 : Int}
    (ha : Dr (-1074) 971 2 a0 a1 a2 A0) (ha' : Dr (-1074) 971 2 a3 a4 a5 A1) (hb : Dr (-1074) 971 2 b0 b1 b2 B0) (hb' : Dr (-1074) 971 2 b3 b4 b5 B1)
    (hc : Dr (-1074) 971 2 c0 c1 c2 C0) (hc' : Dr (-1074) 971 2 c3 c4 c5 C1) (hd : Dr (-1074) 971 2 d0 d1 d2 D0) (hd' : Dr (-1074) 971 2 d3 d4 d5 D1) :
    ∃ s l e, spec_Dot k a0 a1 a2 a3 a4 a5 b0 b1 b2 b3 b4 b5 c0 c1 c2 c3 c4 c5 d0 d1 d2 d3 d4 d5 = some (s, l, e) ∧ Dr (-2148) 1942 263 s l e ((B0 - A0) * (D0 - C0) + (B1 - A1) * (D1 - C1)) := by
  obtain ⟨s1, m1, e1, q1, w1⟩ := dsub_is (k := k) hb ha (by decide) (by decide) (by decide) (by decide) (by simp; omega)
  obtain ⟨s2, m2, e2, q2, w2⟩ := dsub_is (k := k) hd hc (by decide) (by decide) (by decide) (by decide) (by simp; omega)
  obtain ⟨s3, m3, e3, q3, w3⟩ := dsub_is (k := k) hb' ha' (by decide) (by decide) (by decide) (by decide) (by simp; omega)
  obtain ⟨s4, m4, e4, q4, w4⟩ := dsub_is (k := k) hd' hc' (by decide) (by decide) (by decide) (by decide) (by simp; omega)
  obtain ⟨s5, m5, e5, q5, w5⟩ := dmul_is (k := k) w1 w2 (by decide) (by decide) (by decide) (by decide) (by decide) (by decide) (by simp; omega)
  obtain ⟨s6, m6, e6, q6, w6⟩ := dmul_is (k := k) w3 w4 (by decide) (by decide) (by decide) (by decide) (by decide) (by decide) (by simp; omega)
  obtain ⟨s7, m7, e7, q7, w7⟩ := dadd_is (k := k) w5 w6 (by decide) (by decide) (by decide) (by decide) (by simp; omega)
  unfold spec_Dot
  simp only [q1, q2, q3, q4, q5, q6, q7, sbind]
  exact ⟨_, _, _, rfl, w7.mono (by decide) (by decide)⟩
theorem square_is' {k : Nat} (hk : 1000 < k) {a0 b0 a3 b3 : Bool} {a1 a4 b1 b4 : List Int} {a2 a5 b2 b5 : Int} {A0 A1 B0 B1 : Int}
    (ha : Dr (-1074) 971 2 a0 a1 a2 A0) (ha' : Dr (-1074) 971 2 a3 a4 a5 A1) (hb : Dr (-1074) 971 2 b0 b1 b2 B0) (hb' : Dr (-1074) 971 2 b3 b4 b5 B1) :
    ∃ s l e, spec_Square k a0 a1 a2 a3 a4 a5 b0 b1 b2 b3 b4 b5 = some (s, l, e) ∧ Dr (-2148) 1942 263 s l e ((B0 - A0) * (B0 - A0) + (B1 - A1) * (B1 - A1)) := by
  obtain ⟨s, l, e, q, w⟩ := dot_is hk ha ha' hb hb' ha ha' hb hb'
  unfold spec_Square
  simp only [q, sbind]
  exact ⟨_, _, _, rfl, w⟩
theorem crossn_is {k : Nat} (hk : 1000 < k) {a0 b0 p0 a3 b3 p3 : Bool} {a1 a4 b1 b4 p1 p4 : List Int} {a2 a5 b2 b5 p2 p5 : Int} {A0 A1 B0 B1 P0 P1 : Int}
    (ha : Dr (-1074) 971 2 a0 a1 a2 A0) (ha' : Dr (-1074) 971 2 a3 a4 a5 A1) (hb : Dr (-1074) 971 2 b0 b1 b2 B0) (hb' : Dr (-1074) 971 2 b3 b4 b5 B1) (hp : Dr (-1074) 971 2 p0 p1 p2 P0) (hp' : Dr (-1074) 971 2 p3 p4 p5 P1) :
    ∃ s l e, spec_Cross k a0 a1 a2 a3 a4 a5 b0 b1 b2 b3 b4 b5 p0 p1 p2 p3 p4 p5 = some (s, l, e) ∧ Dr (-2148) 1942 263 s l e ((B0 - A0) * (P1 - A1) - (B1 - A1) * (P0 - A0)) := by
  obtain ⟨s1, m1, e1, q1, w1⟩ := dsub_is (k := k) hb ha (by decide) (by decide) (by decide) (by decide) (by simp; omega)
  obtain ⟨s2, m2, e2, q2, w2⟩ := dsub_is (k := k) hp' ha' (by decide) (by decide) (by decide) (by decide) (by simp; omega)
  obtain ⟨s3, m3, e3, q3, w3⟩ := dsub_is (k := k) hb' ha' (by decide) (by decide) (by decide) (by decide) (by simp; omega)
  obtain ⟨s4, m4, e4, q4, w4⟩ := dsub_is (k := k) hp ha (by decide) (by decide) (by decide) (by decide) (by simp; omega)
  obtain ⟨s5, m5, e5, q5, w5⟩ := dmul_is (k := k) w1 w2 (by decide) (by decide) (by decide) (by decide) (by decide) (by decide) (by simp; omega)
  obtain ⟨s6, m6, e6, q6, w6⟩ := dmul_is (k := k) w3 w4 (by decide) (by decide) (by decide) (by decide) (by decide) (by decide) (by simp; omega)
  obtain ⟨s7, m7, e7, q7, w7⟩ := dsub_is (k := k) w5 w6 (by decide) (by decide) (by decide) (by decide) (by simp; omega)
  unfold spec_Cross
  simp only [q1, q2, q3, q4, q5, q6, q7, sbind]
  exact ⟨_, _, _, rfl, w7.mono (by decide) (by decide)⟩
theorem sgn_le (n : Int) : sgn n ≤ 0 ↔ n ≤ 0 := by unfold sgn; split <;> (try split) <;> omega
theorem sgn_ge (n : Int) : 0 ≤ sgn n ↔ 0 ≤ n := by unfold sgn; split <;> (try split) <;> omega
/-- length, way along, way across -/
def lenZ (A0 A1 B0 B1 : Int) : Int := (B0 - A0) * (B0 - A0) + (B1 - A1) * (B1 - A1)
def dotZ (A0 A1 B0 B1 P0 P1 : Int) : Int := (B0 - A0) * (P0 - A0) + (B1 - A1) * (P1 - A1)
def crsZ (A0 A1 B0 B1 P0 P1 : Int) : Int := (B0 - A0) * (P1 - A1) - (B1 - A1) * (P0 - A0)
theorem squareTo_is {k : Nat} (hk : 1000 < k) {a0 b0 p0 a3 b3 p3 : Bool} {a1 a4 b1 b4 p1 p4 : List Int} {a2 a5 b2 b5 p2 p5 : Int} {A0 A1 B0 B1 P0 P1 : Int}
    (ha : Dr (-1074) 971 2 a0 a1 a2 A0) (ha' : Dr (-1074) 971 2 a3 a4 a5 A1) (hb : Dr (-1074) 971 2 b0 b1 b2 B0) (hb' : Dr (-1074) 971 2 b3 b4 b5 B1) (hp : Dr (-1074) 971 2 p0 p1 p2 P0) (hp' : Dr (-1074) 971 2 p3 p4 p5 P1) :
    ∃ s l e s' l' e', spec_SquareTo k p0 p1 p2 p3 p4 p5 a0 a1 a2 a3 a4 a5 b0 b1 b2 b3 b4 b5 = some (s, l, e, s', l', e') ∧
      (((lenZ A0 A1 B0 B1 = 0 ∨ dotZ A0 A1 B0 B1 P0 P1 ≤ 0) ∧ Dr (-2148) 1942 263 s l e (lenZ A0 A1 P0 P1) ∧ Dr 0 0 2 s' l' e' 1) ∨
       ((lenZ A0 A1 B0 B1 ≠ 0 ∧ 0 < dotZ A0 A1 B0 B1 P0 P1 ∧ lenZ A0 A1 B0 B1 ≤ dotZ A0 A1 B0 B1 P0 P1) ∧ Dr (-2148) 1942 263 s l e (lenZ B0 B1 P0 P1) ∧ Dr 0 0 2 s' l' e' 1) ∨
       ((lenZ A0 A1 B0 B1 ≠ 0 ∧ 0 < dotZ A0 A1 B0 B1 P0 P1 ∧ dotZ A0 A1 B0 B1 P0 P1 < lenZ A0 A1 B0 B1) ∧ Dr (-4296) 3884 526 s l e (crsZ A0 A1 B0 B1 P0 P1 * crsZ A0 A1 B0 B1 P0 P1) ∧ Dr (-2148) 1942 263 s' l' e' (lenZ A0 A1 B0 B1))) := by
  obtain ⟨s1, l1, e1, q1, w1⟩ := square_is' hk ha ha' hb hb'
  obtain ⟨s2, l2, e2, q2, w2⟩ := dot_is hk ha ha' hb hb' ha ha' hp hp'
  obtain ⟨s3, l3, q3, w3, w3'⟩ := wholeOf_is (k := k) (n := 1) (by decide) (by decide) (by omega)
  obtain ⟨s4, l4, e4, q4, w4⟩ := square_is' hk ha ha' hp hp'
  obtain ⟨s5, l5, e5, q5, w5⟩ := square_is' hk hb hb' hp hp'
  obtain ⟨s6, l6, e6, q6, w6⟩ := crossn_is hk ha ha' hb hb' hp hp'
  obtain ⟨s7, l7, e7, q7, w7⟩ := dmul_is (k := k) w6 w6 (by decide) (by decide) (by decide) (by decide) (by decide) (by decide) (by simp; omega)
  obtain ⟨s8, l8, e8, q8, w8⟩ := dsub_is (k := k) w2 w1 (by decide) (by decide) (by decide) (by decide) (by simp; omega)
  have z1 := dsign_is (k := k) w1
  have z2 := dsign_is (k := k) w2
  have z8 := dsign_is (k := k) w8
  have r3 : Dr 0 0 2 s3 l3 0 1 := ⟨⟨1, w3, by decide⟩, by omega, by omega, w3'⟩
  have o3 : spec_IntOf k 1 = some (s3, l3, 0) := by unfold spec_IntOf; rw [q3]; rfl
  unfold spec_SquareTo
  simp only [q1, q2, o3, z1, z2, sbind]
  by_cases h0 : lenZ A0 A1 B0 B1 = 0
  · rw [decide_eq_true (show sgn ((B0 - A0) * (B0 - A0) + (B1 - A1) * (B1 - A1)) = 0 from sgn_zero.2 h0), br_true]
    unfold spec_SquareTo_j1
    simp only [br_true, q4, sbind]
    exact ⟨_, _, _, _, _, _, rfl, .inl ⟨.inl h0, w4, r3⟩⟩
  · rw [decide_eq_false (show ¬ sgn ((B0 - A0) * (B0 - A0) + (B1 - A1) * (B1 - A1)) = 0 from fun h => h0 (sgn_zero.1 h)), br_false]
    unfold spec_SquareTo_j1
    by_cases h1 : dotZ A0 A1 B0 B1 P0 P1 ≤ 0
    · rw [decide_eq_true (show sgn ((B0 - A0) * (P0 - A0) + (B1 - A1) * (P1 - A1)) ≤ 0 from (sgn_le _).2 h1), br_true]
      simp only [q4, sbind]
      exact ⟨_, _, _, _, _, _, rfl, .inl ⟨.inr h1, w4, r3⟩⟩
    · rw [decide_eq_false (show ¬ sgn ((B0 - A0) * (P0 - A0) + (B1 - A1) * (P1 - A1)) ≤ 0 from fun h => h1 ((sgn_le _).1 h)), br_false]
      unfold spec_Dyadic_Cmp
      simp only [q8, z8, sbind]
      by_cases h2 : lenZ A0 A1 B0 B1 ≤ dotZ A0 A1 B0 B1 P0 P1
      · rw [decide_eq_true ((sgn_ge _).2 (by unfold lenZ dotZ at h2; omega)), br_true]
        simp only [q5, sbind]
        exact ⟨_, _, _, _, _, _, rfl, .inr (.inl ⟨⟨h0, by omega, h2⟩, w5, r3⟩)⟩
      · rw [decide_eq_false (fun h => h2 (by have := (sgn_ge _).1 h; unfold lenZ dotZ; omega)), br_false]
        simp only [q6, q7, sbind]
        exact ⟨_, _, _, _, _, _, rfl, .inr (.inr ⟨⟨h0, by omega, by omega⟩, w7, w1⟩)⟩
end Go.Proofs.Ytlipjaacncpaoaa
