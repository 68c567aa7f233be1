/-
  The determinant of a matrix and of the transposed one: the plain statement. Ours.
-/
import Derived.Test.YtnhbmhdjkibjaaaDoorGridRows
namespace Go.Proofs.YtnhbmhdjkibjaaaDoor
open Go.Sx
open Ieee (signed)
set_option linter.unusedVariables false
set_option linter.unusedSimpArgs false
set_option maxRecDepth 100000

theorem D_1024 : D 4652218415073722368 ((1024 : Nat) : Int) 1074 := D_two 10 (by decide)
theorem offGrid_1024 {x : Nat} (hx : x < 2 ^ 64) (h : offGrid 4652218415073722368 x = false) : ∃ n : Int, D x n 1074 ∧ n.natAbs ≤ 1024 := by
  unfold offGrid at h
  simp only [Bool.not_eq_false', Bool.and_eq_true, Bool.not_eq_true'] at h
  exact grid_one (w := 4652218415073722368) (b := 1024) hx (by omega) D_1024 h.1.1 h.1.2 h.2
theorem prod_le {a b : Int} {m n : Nat} (h : a.natAbs ≤ m) (h' : b.natAbs ≤ n) : (a * b).natAbs ≤ m * n := by rw [Int.natAbs_mul]; exact Nat.mul_le_mul h h'
/-- the rows of a matrix: words and numbers -/
structure Mt (a0 a1 a2 a3 a4 a5 a6 a7 a8 : Nat) (m0 m1 m2 m3 m4 m5 m6 m7 m8 : Int) : Prop where
  d0 : D a0 m0 1074
  d1 : D a1 m1 1074
  d2 : D a2 m2 1074
  d3 : D a3 m3 1074
  d4 : D a4 m4 1074
  d5 : D a5 m5 1074
  d6 : D a6 m6 1074
  d7 : D a7 m7 1074
  d8 : D a8 m8 1074
  b0 : m0.natAbs ≤ 1024
  b1 : m1.natAbs ≤ 1024
  b2 : m2.natAbs ≤ 1024
  b3 : m3.natAbs ≤ 1024
  b4 : m4.natAbs ≤ 1024
  b5 : m5.natAbs ≤ 1024
  b6 : m6.natAbs ≤ 1024
  b7 : m7.natAbs ≤ 1024
  b8 : m8.natAbs ≤ 1024
theorem entries_is (F : Nat) (hF : 100 < F) (a0 a1 a2 a3 a4 a5 a6 a7 a8 : Nat) (h0 : a0 < 2 ^ 64) (h1 : a1 < 2 ^ 64) (h2 : a2 < 2 ^ 64) (h3 : a3 < 2 ^ 64) (h4 : a4 < 2 ^ 64) (h5 : a5 < 2 ^ 64) (h6 : a6 < 2 ^ 64) (h7 : a7 < 2 ^ 64) (h8 : a8 < 2 ^ 64) :
    ∃ b, laws_entries F [(a0, a1, a2, a3, a4, a5, a6, a7, a8)] = some b ∧ (b = true → ∃ m0 m1 m2 m3 m4 m5 m6 m7 m8, Mt a0 a1 a2 a3 a4 a5 a6 a7 a8 m0 m1 m2 m3 m4 m5 m6 m7 m8) := by
  obtain ⟨F, rfl⟩ : ∃ f, F = f + 2 := ⟨F - 2, by omega⟩
  obtain ⟨b, hg, hb⟩ := grid_rows (F + 1) [[a0, a1, a2, a3, a4, a5, a6, a7, a8]] 9 (by omega) 4652218415073722368 (by simp) (by simp; omega)
  have hg' : spec_Grid (F + 1) [[a0, a1, a2, a3, a4, a5, a6, a7, a8]] 9 4652218415073722368 = some b := hg
  have i0 : idx [(a0, a1, a2, a3, a4, a5, a6, a7, a8)] 0 = some (a0, a1, a2, a3, a4, a5, a6, a7, a8) := rfl
  have i1 : decide ((0 : Int) < (([(a0, a1, a2, a3, a4, a5, a6, a7, a8)] : List (Nat × Nat × Nat × Nat × Nat × Nat × Nat × Nat × Nat)).length : Int)) = true := rfl
  have i2 : decide ((1 : Int) < (([(a0, a1, a2, a3, a4, a5, a6, a7, a8)] : List (Nat × Nat × Nat × Nat × Nat × Nat × Nat × Nat × Nat)).length : Int)) = false := rfl
  have i3 : iadd .i64 0 1 = 1 := by decide
  refine ⟨b, ?_, fun hbt => ?_⟩
  · unfold laws_entries
    simp only [laws_entries_l1, laws_entries_l1s, i0, i1, i2, i3, br_true, br_false, sbind, hg']
    cases b <;> rfl
  · have h := (hb hbt [a0, a1, a2, a3, a4, a5, a6, a7, a8] (by simp)).2
    obtain ⟨m0, e0, n0⟩ := offGrid_1024 h0 (h 0 (by simp))
    obtain ⟨m1, e1, n1⟩ := offGrid_1024 h1 (h 1 (by simp))
    obtain ⟨m2, e2, n2⟩ := offGrid_1024 h2 (h 2 (by simp))
    obtain ⟨m3, e3, n3⟩ := offGrid_1024 h3 (h 3 (by simp))
    obtain ⟨m4, e4, n4⟩ := offGrid_1024 h4 (h 4 (by simp))
    obtain ⟨m5, e5, n5⟩ := offGrid_1024 h5 (h 5 (by simp))
    obtain ⟨m6, e6, n6⟩ := offGrid_1024 h6 (h 6 (by simp))
    obtain ⟨m7, e7, n7⟩ := offGrid_1024 h7 (h 7 (by simp))
    obtain ⟨m8, e8, n8⟩ := offGrid_1024 h8 (h 8 (by simp))
    exact ⟨m0, m1, m2, m3, m4, m5, m6, m7, m8, e0, e1, e2, e3, e4, e5, e6, e7, e8, n0, n1, n2, n3, n4, n5, n6, n7, n8⟩
/-- a part of the determinant -/
theorem minor_bd {a b c d e : Int} (h0 : e.natAbs ≤ 1024) (h1 : a.natAbs ≤ 1024) (h2 : b.natAbs ≤ 1024) (h3 : c.natAbs ≤ 1024) (h4 : d.natAbs ≤ 1024) : (a * b).natAbs ≤ 1048576 ∧ (c * d).natAbs ≤ 1048576 ∧ (a * b - c * d).natAbs ≤ 2097152 ∧ (e * (a * b - c * d)).natAbs ≤ 2147483648 := by
  have p1 := prod_le h1 h2
  have p2 := prod_le h3 h4
  have p3 : (a * b - c * d).natAbs ≤ 2097152 := by omega
  have p4 := prod_le h0 p3
  exact ⟨p1, p2, p3, p4⟩
theorem minor_D {x a b c d : Nat} {e p q r s : Int} (hx : D x e 1074) (ha : D a p 1074) (hb : D b q 1074) (hc : D c r 1074) (hd : D d s 1074) (h0 : e.natAbs ≤ 1024) (h1 : p.natAbs ≤ 1024) (h2 : q.natAbs ≤ 1024) (h3 : r.natAbs ≤ 1024) (h4 : s.natAbs ≤ 1024) :
    D (gmul x (gsub (gmul a b) (gmul c d))) (e * (p * q - r * s)) 1074 := by
  obtain ⟨k1, k2, k3, k4⟩ := minor_bd h0 h1 h2 h3 h4
  have g1 := gmul_D (u := 1074) ha hb rfl rfl (by decide) (by omega) (by decide)
  have g2 := gmul_D (u := 1074) hc hd rfl rfl (by decide) (by omega) (by decide)
  have g3 := gsub_D g1 g2 rfl (by omega) (by decide)
  exact gmul_D (u := 1074) hx g3 rfl rfl (by decide) (by omega) (by decide)
def det (m0 m1 m2 m3 m4 m5 m6 m7 m8 : Int) : Int := m0 * (m4 * m8 - m5 * m7) - m1 * (m3 * m8 - m5 * m6) + m2 * (m3 * m7 - m4 * m6)
theorem det_bd {a0 a1 a2 a3 a4 a5 a6 a7 a8 : Nat} {m0 m1 m2 m3 m4 m5 m6 m7 m8 : Int} (h : Mt a0 a1 a2 a3 a4 a5 a6 a7 a8 m0 m1 m2 m3 m4 m5 m6 m7 m8) : (det m0 m1 m2 m3 m4 m5 m6 m7 m8).natAbs ≤ 6442450944 := by
  obtain ⟨_, _, _, k1⟩ := minor_bd h.b0 h.b4 h.b8 h.b5 h.b7
  obtain ⟨_, _, _, k2⟩ := minor_bd h.b1 h.b3 h.b8 h.b5 h.b6
  obtain ⟨_, _, _, k3⟩ := minor_bd h.b2 h.b3 h.b7 h.b4 h.b6
  unfold det; omega
/-- the program's determinant, as a word -/
theorem matDet_is (F : Nat) {a0 a1 a2 a3 a4 a5 a6 a7 a8 : Nat} {m0 m1 m2 m3 m4 m5 m6 m7 m8 : Int} (h : Mt a0 a1 a2 a3 a4 a5 a6 a7 a8 m0 m1 m2 m3 m4 m5 m6 m7 m8) : ∃ w, impl_MatDet F a0 a1 a2 a3 a4 a5 a6 a7 a8 = some w ∧ D w (det m0 m1 m2 m3 m4 m5 m6 m7 m8) 1074 := by
  obtain ⟨_, _, _, k1⟩ := minor_bd h.b0 h.b4 h.b8 h.b5 h.b7
  obtain ⟨_, _, _, k2⟩ := minor_bd h.b1 h.b3 h.b8 h.b5 h.b6
  obtain ⟨_, _, _, k3⟩ := minor_bd h.b2 h.b3 h.b7 h.b4 h.b6
  have e1 := minor_D h.d0 h.d4 h.d8 h.d5 h.d7 h.b0 h.b4 h.b8 h.b5 h.b7
  have e2 := minor_D h.d1 h.d3 h.d8 h.d5 h.d6 h.b1 h.b3 h.b8 h.b5 h.b6
  have e3 := minor_D h.d2 h.d3 h.d7 h.d4 h.d6 h.b2 h.b3 h.b7 h.b4 h.b6
  have e4 := gsub_D e1 e2 rfl (by omega) (by decide)
  have e5 := gadd_D e4 e3 (c := det m0 m1 m2 m3 m4 m5 m6 m7 m8) rfl (by unfold det; omega) (by decide)
  exact ⟨_, rfl, e5⟩
theorem transpose_is (F : Nat) (a0 a1 a2 a3 a4 a5 a6 a7 a8 : Nat) : impl_MatTranspose F a0 a1 a2 a3 a4 a5 a6 a7 a8 = some (a0, a3, a6, a1, a4, a7, a2, a5, a8) := rfl
theorem n62 {x : Int} {m : Nat} (h : x.natAbs ≤ m) (hm : m ≤ 4611686018427387904) : -9223372036854775808 ≤ x ∧ x < 9223372036854775808 := by omega
theorem minor_i {a b c d e : Int} (h0 : e.natAbs ≤ 1024) (h1 : a.natAbs ≤ 1024) (h2 : b.natAbs ≤ 1024) (h3 : c.natAbs ≤ 1024) (h4 : d.natAbs ≤ 1024) : imul .i64 e (isub .i64 (imul .i64 a b) (imul .i64 c d)) = e * (a * b - c * d) := by
  obtain ⟨k1, k2, k3, k4⟩ := minor_bd h0 h1 h2 h3 h4
  obtain ⟨a1, a2⟩ := n62 k1 (by decide)
  obtain ⟨b1, b2⟩ := n62 k2 (by decide)
  obtain ⟨c1, c2⟩ := n62 k3 (by decide)
  obtain ⟨d1, d2⟩ := n62 k4 (by decide)
  rw [imul_i64 a1 a2, imul_i64 b1 b2, isub_i64 c1 c2, imul_i64 d1 d2]
theorem sum_i {x y z : Int} (h1 : x.natAbs ≤ 2147483648) (h2 : y.natAbs ≤ 2147483648) (h3 : z.natAbs ≤ 2147483648) : iadd .i64 (isub .i64 x y) z = x - y + z := by
  rw [isub_i64 (by omega) (by omega), iadd_i64 (by omega) (by omega)]
theorem detOf_is (F : Nat) {a0 a1 a2 a3 a4 a5 a6 a7 a8 : Nat} {m0 m1 m2 m3 m4 m5 m6 m7 m8 : Int} (h : Mt a0 a1 a2 a3 a4 a5 a6 a7 a8 m0 m1 m2 m3 m4 m5 m6 m7 m8) : laws_detOf F a0 a1 a2 a3 a4 a5 a6 a7 a8 = some (det m0 m1 m2 m3 m4 m5 m6 m7 m8) := by
  have one : ∀ (i : Int) (x : Nat) (m : Int), idxn 9 [a0, a1, a2, a3, a4, a5, a6, a7, a8] i = some x → D x m 1074 → m.natAbs ≤ 1024 → laws_detOf_1 F i [a0, a1, a2, a3, a4, a5, a6, a7, a8] = some ([a0, a1, a2, a3, a4, a5, a6, a7, a8], m) := by
    intro i x m hi hx hm
    unfold laws_detOf_1
    rw [hi, sbind, f2i_D hx (by omega), sbind]
  obtain ⟨p1, p2, p3, p4⟩ := minor_bd h.b0 h.b4 h.b8 h.b5 h.b7
  obtain ⟨q1, q2, q3, q4⟩ := minor_bd h.b1 h.b3 h.b8 h.b5 h.b6
  obtain ⟨r1, r2, r3, r4⟩ := minor_bd h.b2 h.b3 h.b7 h.b4 h.b6
  unfold laws_detOf
  rw [one 0 a0 m0 rfl h.d0 h.b0, sbind]
  dsimp only
  rw [one 4 a4 m4 rfl h.d4 h.b4, sbind]
  dsimp only
  rw [one 8 a8 m8 rfl h.d8 h.b8, sbind]
  dsimp only
  rw [one 5 a5 m5 rfl h.d5 h.b5, sbind]
  dsimp only
  rw [one 7 a7 m7 rfl h.d7 h.b7, sbind]
  dsimp only
  rw [one 1 a1 m1 rfl h.d1 h.b1, sbind]
  dsimp only
  rw [one 3 a3 m3 rfl h.d3 h.b3, sbind]
  dsimp only
  rw [one 8 a8 m8 rfl h.d8 h.b8, sbind]
  dsimp only
  rw [one 5 a5 m5 rfl h.d5 h.b5, sbind]
  dsimp only
  rw [one 6 a6 m6 rfl h.d6 h.b6, sbind]
  dsimp only
  rw [one 2 a2 m2 rfl h.d2 h.b2, sbind]
  dsimp only
  rw [one 3 a3 m3 rfl h.d3 h.b3, sbind]
  dsimp only
  rw [one 7 a7 m7 rfl h.d7 h.b7, sbind]
  dsimp only
  rw [one 4 a4 m4 rfl h.d4 h.b4, sbind]
  dsimp only
  rw [one 6 a6 m6 rfl h.d6 h.b6, sbind]
  dsimp only
  rw [minor_i h.b0 h.b4 h.b8 h.b5 h.b7, minor_i h.b1 h.b3 h.b8 h.b5 h.b6, minor_i h.b2 h.b3 h.b7 h.b4 h.b6, sum_i p4 q4 r4]
  rfl
theorem det_turned (m0 m1 m2 m3 m4 m5 m6 m7 m8 : Int) : det m0 m3 m6 m1 m4 m7 m2 m5 m8 = det m0 m1 m2 m3 m4 m5 m6 m7 m8 := by unfold det; grind
theorem main (F : Nat) (hF : 100 < F) (a0 a1 a2 a3 a4 a5 a6 a7 a8 : Nat) (h0 : a0 < 2 ^ 64) (h1 : a1 < 2 ^ 64) (h2 : a2 < 2 ^ 64) (h3 : a3 < 2 ^ 64) (h4 : a4 < 2 ^ 64) (h5 : a5 < 2 ^ 64) (h6 : a6 < 2 ^ 64) (h7 : a7 < 2 ^ 64) (h8 : a8 < 2 ^ 64) :
    laws_FnMatDet F a0 a1 a2 a3 a4 a5 a6 a7 a8 = some true := by
  obtain ⟨b, hb, hb2⟩ := entries_is F hF a0 a1 a2 a3 a4 a5 a6 a7 a8 h0 h1 h2 h3 h4 h5 h6 h7 h8
  unfold laws_FnMatDet
  rw [hb, sbind]
  cases b with
  | false => rfl
  | true =>
    obtain ⟨m0, m1, m2, m3, m4, m5, m6, m7, m8, h⟩ := hb2 rfl
    have hT : Mt a0 a3 a6 a1 a4 a7 a2 a5 a8 m0 m3 m6 m1 m4 m7 m2 m5 m8 := ⟨h.d0, h.d3, h.d6, h.d1, h.d4, h.d7, h.d2, h.d5, h.d8, h.b0, h.b3, h.b6, h.b1, h.b4, h.b7, h.b2, h.b5, h.b8⟩
    obtain ⟨w, e1, d1⟩ := matDet_is F h
    obtain ⟨w', e2, d2⟩ := matDet_is F hT
    rw [det_turned] at d2
    have bd := det_bd h
    have hi := D_i2f (n := det m0 m1 m2 m3 m4 m5 m6 m7 m8) (by omega)
    rw [Bool.not_true, br_false, detOf_is F h, sbind, e1, sbind, D_eq d1 hi, decide_eq_true rfl, br_true, transpose_is, sbind]
    dsimp only
    rw [e2, sbind, D_eq d2 hi, decide_eq_true rfl]
    rfl
theorem fact_FnMatDet (a0 a1 a2 a3 a4 a5 a6 a7 a8 : Nat) (g0 : a0 < 18446744073709551616 ∧ a1 < 18446744073709551616 ∧ a2 < 18446744073709551616 ∧ a3 < 18446744073709551616 ∧ a4 < 18446744073709551616 ∧ a5 < 18446744073709551616 ∧ a6 < 18446744073709551616 ∧ a7 < 18446744073709551616 ∧ a8 < 18446744073709551616) :
    laws_FnMatDet 200 a0 a1 a2 a3 a4 a5 a6 a7 a8 = some true := main 200 (by decide) a0 a1 a2 a3 a4 a5 a6 a7 a8 g0.1 g0.2.1 g0.2.2.1 g0.2.2.2.1 g0.2.2.2.2.1 g0.2.2.2.2.2.1 g0.2.2.2.2.2.2.1 g0.2.2.2.2.2.2.2.1 g0.2.2.2.2.2.2.2.2
end Go.Proofs.YtnhbmhdjkibjaaaDoor
